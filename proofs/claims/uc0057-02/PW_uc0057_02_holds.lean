import PyProof.Rows.All
import Wide.All
import OpenK.AllK
import Wide.FinOn
import Lean
import PySem.Challenge.RW_uc0057_02
open PySem PySem.W PyProof.Rows
open PySem.Str (ofString)
set_option Elab.async false
set_option compiler.extract_closed false
set_option genCtorIdx false
set_option maxRecDepth 100000
set_option linter.unusedVariables false
set_option maxHeartbeats 4000000
set_option tactic.hygienic false
local macro_rules | `(tactic| walk_at "O") => `(tactic| (first | lia | omega))
set_option hygiene false in
local macro_rules | `(tactic| omega) => `(tactic| first | (with_reducible first | exact Int.natCast_nonneg _ | exact Int.ofNat_lt.mpr ‹_› | exact Nat.le_trans ‹_› (by decide) | exact Nat.lt_of_le_of_lt ‹_› (by decide) | exact Nat.ne_of_lt ‹_› | exact Nat.ne_of_gt ‹_› | exact Nat.le_of_lt ‹_›) | ((with_reducible refine And.intro ?_ ?_) <;> omega) | ((try clear_value C3); (try clear_value C2); (try clear_value C1); (try clear_value C); lia))
namespace Uc
noncomputable def f0_args:Arguments:=by
 refine(?f:(?P:Prop)->Arguments) ?qh
 refine fun(_:Challenge.pw_uc0057_02.main.body[0]? =some (.FunctionDef ?qn ?qa ?qb ?qd ?qr ?qt ?qs ?qv ?qc ?qp))=>?qa
 case qh=>exact rfl
noncomputable def f0_body:List Stmt:=by
 refine(fun(_:Challenge.pw_uc0057_02.main.body[0]? =some (.FunctionDef ?qn ?qa ?qb ?qd ?qr ?qt ?qs ?qv ?qc ?qp))=>?qb) ?qh
 exact rfl
noncomputable def f0_scope:Scope:=by
 refine(?f:(?P:Prop)->Scope) ?qh
 refine fun(_:Challenge.pw_uc0057_02.main.body[0]? =some (.FunctionDef ?qn ?qa ?qb ?qd ?qr ?qt ?qs ?qv ?qc ?qp))=>?qs
 case qh=>exact rfl
noncomputable def f2_cbody:List Stmt:=by
 refine(fun(_:Challenge.pw_uc0057_02.main.body[2]? =some (.ClassDef ?qn ?qa ?qb ?qd ?qr ?qt ?qs ?qv ?qc ?qp ?qu))=>?qd) ?qh
 exact rfl
noncomputable def f2m1_args:Arguments:=by
 refine(?f:(?P:Prop)->Arguments) ?qh
 refine fun(_:f2_cbody[1]? =some (.FunctionDef ?qn ?qa ?qb ?qd ?qr ?qt ?qs ?qv ?qc ?qp))=>?qa
 case qh=>exact rfl
noncomputable def f2m1_body:List Stmt:=by
 refine(fun(_:f2_cbody[1]? =some (.FunctionDef ?qn ?qa ?qb ?qd ?qr ?qt ?qs ?qv ?qc ?qp))=>?qb) ?qh
 exact rfl
noncomputable def f2m1_scope:Scope:=by
 refine(?f:(?P:Prop)->Scope) ?qh
 refine fun(_:f2_cbody[1]? =some (.FunctionDef ?qn ?qa ?qb ?qd ?qr ?qt ?qs ?qv ?qc ?qp))=>?qs
 case qh=>exact rfl
noncomputable def f2m2_args:Arguments:=by
 refine(?f:(?P:Prop)->Arguments) ?qh
 refine fun(_:f2_cbody[2]? =some (.FunctionDef ?qn ?qa ?qb ?qd ?qr ?qt ?qs ?qv ?qc ?qp))=>?qa
 case qh=>exact rfl
noncomputable def f2m2_body:List Stmt:=by
 refine(fun(_:f2_cbody[2]? =some (.FunctionDef ?qn ?qa ?qb ?qd ?qr ?qt ?qs ?qv ?qc ?qp))=>?qb) ?qh
 exact rfl
noncomputable def f2m2_scope:Scope:=by
 refine(?f:(?P:Prop)->Scope) ?qh
 refine fun(_:f2_cbody[2]? =some (.FunctionDef ?qn ?qa ?qb ?qd ?qr ?qt ?qs ?qv ?qc ?qp))=>?qs
 case qh=>exact rfl
noncomputable def f2m3_args:Arguments:=by
 refine(?f:(?P:Prop)->Arguments) ?qh
 refine fun(_:f2_cbody[3]? =some (.FunctionDef ?qn ?qa ?qb ?qd ?qr ?qt ?qs ?qv ?qc ?qp))=>?qa
 case qh=>exact rfl
noncomputable def f2m3_body:List Stmt:=by
 refine(fun(_:f2_cbody[3]? =some (.FunctionDef ?qn ?qa ?qb ?qd ?qr ?qt ?qs ?qv ?qc ?qp))=>?qb) ?qh
 exact rfl
noncomputable def f2m3_scope:Scope:=by
 refine(?f:(?P:Prop)->Scope) ?qh
 refine fun(_:f2_cbody[3]? =some (.FunctionDef ?qn ?qa ?qb ?qd ?qr ?qt ?qs ?qv ?qc ?qp))=>?qs
 case qh=>exact rfl
noncomputable def f2m4_args:Arguments:=by
 refine(?f:(?P:Prop)->Arguments) ?qh
 refine fun(_:f2_cbody[4]? =some (.FunctionDef ?qn ?qa ?qb ?qd ?qr ?qt ?qs ?qv ?qc ?qp))=>?qa
 case qh=>exact rfl
noncomputable def f2m4_body:List Stmt:=by
 refine(fun(_:f2_cbody[4]? =some (.FunctionDef ?qn ?qa ?qb ?qd ?qr ?qt ?qs ?qv ?qc ?qp))=>?qb) ?qh
 exact rfl
noncomputable def f2m4_scope:Scope:=by
 refine(?f:(?P:Prop)->Scope) ?qh
 refine fun(_:f2_cbody[4]? =some (.FunctionDef ?qn ?qa ?qb ?qd ?qr ?qt ?qs ?qv ?qc ?qp))=>?qs
 case qh=>exact rfl
noncomputable def f2m5_args:Arguments:=by
 refine(?f:(?P:Prop)->Arguments) ?qh
 refine fun(_:f2_cbody[5]? =some (.FunctionDef ?qn ?qa ?qb ?qd ?qr ?qt ?qs ?qv ?qc ?qp))=>?qa
 case qh=>exact rfl
noncomputable def f2m5_body:List Stmt:=by
 refine(fun(_:f2_cbody[5]? =some (.FunctionDef ?qn ?qa ?qb ?qd ?qr ?qt ?qs ?qv ?qc ?qp))=>?qb) ?qh
 exact rfl
noncomputable def f2m5_scope:Scope:=by
 refine(?f:(?P:Prop)->Scope) ?qh
 refine fun(_:f2_cbody[5]? =some (.FunctionDef ?qn ?qa ?qb ?qd ?qr ?qt ?qs ?qv ?qc ?qp))=>?qs
 case qh=>exact rfl
noncomputable def f2m6_args:Arguments:=by
 refine(?f:(?P:Prop)->Arguments) ?qh
 refine fun(_:f2_cbody[6]? =some (.FunctionDef ?qn ?qa ?qb ?qd ?qr ?qt ?qs ?qv ?qc ?qp))=>?qa
 case qh=>exact rfl
noncomputable def f2m6_body:List Stmt:=by
 refine(fun(_:f2_cbody[6]? =some (.FunctionDef ?qn ?qa ?qb ?qd ?qr ?qt ?qs ?qv ?qc ?qp))=>?qb) ?qh
 exact rfl
noncomputable def f2m6_scope:Scope:=by
 refine(?f:(?P:Prop)->Scope) ?qh
 refine fun(_:f2_cbody[6]? =some (.FunctionDef ?qn ?qa ?qb ?qd ?qr ?qt ?qs ?qv ?qc ?qp))=>?qs
 case qh=>exact rfl
noncomputable def f2m7_args:Arguments:=by
 refine(?f:(?P:Prop)->Arguments) ?qh
 refine fun(_:f2_cbody[7]? =some (.FunctionDef ?qn ?qa ?qb ?qd ?qr ?qt ?qs ?qv ?qc ?qp))=>?qa
 case qh=>exact rfl
noncomputable def f2m7_body:List Stmt:=by
 refine(fun(_:f2_cbody[7]? =some (.FunctionDef ?qn ?qa ?qb ?qd ?qr ?qt ?qs ?qv ?qc ?qp))=>?qb) ?qh
 exact rfl
noncomputable def f2m7_scope:Scope:=by
 refine(?f:(?P:Prop)->Scope) ?qh
 refine fun(_:f2_cbody[7]? =some (.FunctionDef ?qn ?qa ?qb ?qd ?qr ?qt ?qs ?qv ?qc ?qp))=>?qs
 case qh=>exact rfl
noncomputable def f4_cbody:List Stmt:=by
 refine(fun(_:Challenge.pw_uc0057_02.main.body[4]? =some (.ClassDef ?qn ?qa ?qb ?qd ?qr ?qt ?qs ?qv ?qc ?qp ?qu))=>?qd) ?qh
 exact rfl
noncomputable def f4m0_args:Arguments:=by
 refine(?f:(?P:Prop)->Arguments) ?qh
 refine fun(_:f4_cbody[0]? =some (.FunctionDef ?qn ?qa ?qb ?qd ?qr ?qt ?qs ?qv ?qc ?qp))=>?qa
 case qh=>exact rfl
noncomputable def f4m0_body:List Stmt:=by
 refine(fun(_:f4_cbody[0]? =some (.FunctionDef ?qn ?qa ?qb ?qd ?qr ?qt ?qs ?qv ?qc ?qp))=>?qb) ?qh
 exact rfl
noncomputable def f4m0_scope:Scope:=by
 refine(?f:(?P:Prop)->Scope) ?qh
 refine fun(_:f4_cbody[0]? =some (.FunctionDef ?qn ?qa ?qb ?qd ?qr ?qt ?qs ?qv ?qc ?qp))=>?qs
 case qh=>exact rfl
noncomputable def f4m1_args:Arguments:=by
 refine(?f:(?P:Prop)->Arguments) ?qh
 refine fun(_:f4_cbody[1]? =some (.FunctionDef ?qn ?qa ?qb ?qd ?qr ?qt ?qs ?qv ?qc ?qp))=>?qa
 case qh=>exact rfl
noncomputable def f4m1_body:List Stmt:=by
 refine(fun(_:f4_cbody[1]? =some (.FunctionDef ?qn ?qa ?qb ?qd ?qr ?qt ?qs ?qv ?qc ?qp))=>?qb) ?qh
 exact rfl
noncomputable def f4m1_scope:Scope:=by
 refine(?f:(?P:Prop)->Scope) ?qh
 refine fun(_:f4_cbody[1]? =some (.FunctionDef ?qn ?qa ?qb ?qd ?qr ?qt ?qs ?qv ?qc ?qp))=>?qs
 case qh=>exact rfl
noncomputable def f4m2_args:Arguments:=by
 refine(?f:(?P:Prop)->Arguments) ?qh
 refine fun(_:f4_cbody[2]? =some (.FunctionDef ?qn ?qa ?qb ?qd ?qr ?qt ?qs ?qv ?qc ?qp))=>?qa
 case qh=>exact rfl
noncomputable def f4m2_body:List Stmt:=by
 refine(fun(_:f4_cbody[2]? =some (.FunctionDef ?qn ?qa ?qb ?qd ?qr ?qt ?qs ?qv ?qc ?qp))=>?qb) ?qh
 exact rfl
noncomputable def f4m2_scope:Scope:=by
 refine(?f:(?P:Prop)->Scope) ?qh
 refine fun(_:f4_cbody[2]? =some (.FunctionDef ?qn ?qa ?qb ?qd ?qr ?qt ?qs ?qv ?qc ?qp))=>?qs
 case qh=>exact rfl
noncomputable def f4m3_args:Arguments:=by
 refine(?f:(?P:Prop)->Arguments) ?qh
 refine fun(_:f4_cbody[3]? =some (.FunctionDef ?qn ?qa ?qb ?qd ?qr ?qt ?qs ?qv ?qc ?qp))=>?qa
 case qh=>exact rfl
noncomputable def f4m3_body:List Stmt:=by
 refine(fun(_:f4_cbody[3]? =some (.FunctionDef ?qn ?qa ?qb ?qd ?qr ?qt ?qs ?qv ?qc ?qp))=>?qb) ?qh
 exact rfl
noncomputable def f4m3_scope:Scope:=by
 refine(?f:(?P:Prop)->Scope) ?qh
 refine fun(_:f4_cbody[3]? =some (.FunctionDef ?qn ?qa ?qb ?qd ?qr ?qt ?qs ?qv ?qc ?qp))=>?qs
 case qh=>exact rfl
noncomputable def f7_args:Arguments:=by
 refine(?f:(?P:Prop)->Arguments) ?qh
 refine fun(_:Challenge.pw_uc0057_02.main.body[7]? =some (.FunctionDef ?qn ?qa ?qb ?qd ?qr ?qt ?qs ?qv ?qc ?qp))=>?qa
 case qh=>exact rfl
noncomputable def f7_body:List Stmt:=by
 refine(fun(_:Challenge.pw_uc0057_02.main.body[7]? =some (.FunctionDef ?qn ?qa ?qb ?qd ?qr ?qt ?qs ?qv ?qc ?qp))=>?qb) ?qh
 exact rfl
noncomputable def f7_scope:Scope:=by
 refine(?f:(?P:Prop)->Scope) ?qh
 refine fun(_:Challenge.pw_uc0057_02.main.body[7]? =some (.FunctionDef ?qn ?qa ?qb ?qd ?qr ?qt ?qs ?qv ?qc ?qp))=>?qs
 case qh=>exact rfl
noncomputable def f9_args:Arguments:=by
 refine(?f:(?P:Prop)->Arguments) ?qh
 refine fun(_:Challenge.pw_uc0057_02.main.body[9]? =some (.FunctionDef ?qn ?qa ?qb ?qd ?qr ?qt ?qs ?qv ?qc ?qp))=>?qa
 case qh=>exact rfl
noncomputable def f9_body:List Stmt:=by
 refine(fun(_:Challenge.pw_uc0057_02.main.body[9]? =some (.FunctionDef ?qn ?qa ?qb ?qd ?qr ?qt ?qs ?qv ?qc ?qp))=>?qb) ?qh
 exact rfl
noncomputable def f9_scope:Scope:=by
 refine(?f:(?P:Prop)->Scope) ?qh
 refine fun(_:Challenge.pw_uc0057_02.main.body[9]? =some (.FunctionDef ?qn ?qa ?qb ?qd ?qr ?qt ?qs ?qv ?qc ?qp))=>?qs
 case qh=>exact rfl
noncomputable def f14_args:Arguments:=by
 refine(?f:(?P:Prop)->Arguments) ?qh
 refine fun(_:Challenge.pw_uc0057_02.main.body[14]? =some (.FunctionDef ?qn ?qa ?qb ?qd ?qr ?qt ?qs ?qv ?qc ?qp))=>?qa
 case qh=>exact rfl
noncomputable def f14_body:List Stmt:=by
 refine(fun(_:Challenge.pw_uc0057_02.main.body[14]? =some (.FunctionDef ?qn ?qa ?qb ?qd ?qr ?qt ?qs ?qv ?qc ?qp))=>?qb) ?qh
 exact rfl
noncomputable def f14_scope:Scope:=by
 refine(?f:(?P:Prop)->Scope) ?qh
 refine fun(_:Challenge.pw_uc0057_02.main.body[14]? =some (.FunctionDef ?qn ?qa ?qb ?qd ?qr ?qt ?qs ?qv ?qc ?qp))=>?qs
 case qh=>exact rfl
noncomputable def f15_args:Arguments:=by
 refine(?f:(?P:Prop)->Arguments) ?qh
 refine fun(_:Challenge.pw_uc0057_02.main.body[15]? =some (.FunctionDef ?qn ?qa ?qb ?qd ?qr ?qt ?qs ?qv ?qc ?qp))=>?qa
 case qh=>exact rfl
noncomputable def f15_body:List Stmt:=by
 refine(fun(_:Challenge.pw_uc0057_02.main.body[15]? =some (.FunctionDef ?qn ?qa ?qb ?qd ?qr ?qt ?qs ?qv ?qc ?qp))=>?qb) ?qh
 exact rfl
noncomputable def f15_scope:Scope:=by
 refine(?f:(?P:Prop)->Scope) ?qh
 refine fun(_:Challenge.pw_uc0057_02.main.body[15]? =some (.FunctionDef ?qn ?qa ?qb ?qd ?qr ?qt ?qs ?qv ?qc ?qp))=>?qs
 case qh=>exact rfl
noncomputable def f17_args:Arguments:=by
 refine(?f:(?P:Prop)->Arguments) ?qh
 refine fun(_:Challenge.pw_uc0057_02.main.body[17]? =some (.FunctionDef ?qn ?qa ?qb ?qd ?qr ?qt ?qs ?qv ?qc ?qp))=>?qa
 case qh=>exact rfl
noncomputable def f17_body:List Stmt:=by
 refine(fun(_:Challenge.pw_uc0057_02.main.body[17]? =some (.FunctionDef ?qn ?qa ?qb ?qd ?qr ?qt ?qs ?qv ?qc ?qp))=>?qb) ?qh
 exact rfl
noncomputable def f17_scope:Scope:=by
 refine(?f:(?P:Prop)->Scope) ?qh
 refine fun(_:Challenge.pw_uc0057_02.main.body[17]? =some (.FunctionDef ?qn ?qa ?qb ?qd ?qr ?qt ?qs ?qv ?qc ?qp))=>?qs
 case qh=>exact rfl
noncomputable def f18_args:Arguments:=by
 refine(?f:(?P:Prop)->Arguments) ?qh
 refine fun(_:Challenge.pw_uc0057_02.main.body[18]? =some (.FunctionDef ?qn ?qa ?qb ?qd ?qr ?qt ?qs ?qv ?qc ?qp))=>?qa
 case qh=>exact rfl
noncomputable def f18_body:List Stmt:=by
 refine(fun(_:Challenge.pw_uc0057_02.main.body[18]? =some (.FunctionDef ?qn ?qa ?qb ?qd ?qr ?qt ?qs ?qv ?qc ?qp))=>?qb) ?qh
 exact rfl
noncomputable def f18_scope:Scope:=by
 refine(?f:(?P:Prop)->Scope) ?qh
 refine fun(_:Challenge.pw_uc0057_02.main.body[18]? =some (.FunctionDef ?qn ?qa ?qb ?qd ?qr ?qt ?qs ?qv ?qc ?qp))=>?qs
 case qh=>exact rfl
noncomputable def f19_args:Arguments:=by
 refine(?f:(?P:Prop)->Arguments) ?qh
 refine fun(_:Challenge.pw_uc0057_02.main.body[19]? =some (.FunctionDef ?qn ?qa ?qb ?qd ?qr ?qt ?qs ?qv ?qc ?qp))=>?qa
 case qh=>exact rfl
noncomputable def f19_body:List Stmt:=by
 refine(fun(_:Challenge.pw_uc0057_02.main.body[19]? =some (.FunctionDef ?qn ?qa ?qb ?qd ?qr ?qt ?qs ?qv ?qc ?qp))=>?qb) ?qh
 exact rfl
noncomputable def f19_scope:Scope:=by
 refine(?f:(?P:Prop)->Scope) ?qh
 refine fun(_:Challenge.pw_uc0057_02.main.body[19]? =some (.FunctionDef ?qn ?qa ?qb ?qd ?qr ?qt ?qs ?qv ?qc ?qp))=>?qs
 case qh=>exact rfl
noncomputable def f20_args:Arguments:=by
 refine(?f:(?P:Prop)->Arguments) ?qh
 refine fun(_:Challenge.pw_uc0057_02.main.body[20]? =some (.FunctionDef ?qn ?qa ?qb ?qd ?qr ?qt ?qs ?qv ?qc ?qp))=>?qa
 case qh=>exact rfl
noncomputable def f20_body:List Stmt:=by
 refine(fun(_:Challenge.pw_uc0057_02.main.body[20]? =some (.FunctionDef ?qn ?qa ?qb ?qd ?qr ?qt ?qs ?qv ?qc ?qp))=>?qb) ?qh
 exact rfl
noncomputable def f20_scope:Scope:=by
 refine(?f:(?P:Prop)->Scope) ?qh
 refine fun(_:Challenge.pw_uc0057_02.main.body[20]? =some (.FunctionDef ?qn ?qa ?qb ?qd ?qr ?qt ?qs ?qv ?qc ?qp))=>?qs
 case qh=>exact rfl
noncomputable def f21_args:Arguments:=by
 refine(?f:(?P:Prop)->Arguments) ?qh
 refine fun(_:Challenge.pw_uc0057_02.main.body[21]? =some (.FunctionDef ?qn ?qa ?qb ?qd ?qr ?qt ?qs ?qv ?qc ?qp))=>?qa
 case qh=>exact rfl
noncomputable def f21_body:List Stmt:=by
 refine(fun(_:Challenge.pw_uc0057_02.main.body[21]? =some (.FunctionDef ?qn ?qa ?qb ?qd ?qr ?qt ?qs ?qv ?qc ?qp))=>?qb) ?qh
 exact rfl
noncomputable def f21_scope:Scope:=by
 refine(?f:(?P:Prop)->Scope) ?qh
 refine fun(_:Challenge.pw_uc0057_02.main.body[21]? =some (.FunctionDef ?qn ?qa ?qb ?qd ?qr ?qt ?qs ?qv ?qc ?qp))=>?qs
 case qh=>exact rfl
noncomputable def f22_args:Arguments:=by
 refine(?f:(?P:Prop)->Arguments) ?qh
 refine fun(_:Challenge.pw_uc0057_02.main.body[22]? =some (.FunctionDef ?qn ?qa ?qb ?qd ?qr ?qt ?qs ?qv ?qc ?qp))=>?qa
 case qh=>exact rfl
noncomputable def f22_body:List Stmt:=by
 refine(fun(_:Challenge.pw_uc0057_02.main.body[22]? =some (.FunctionDef ?qn ?qa ?qb ?qd ?qr ?qt ?qs ?qv ?qc ?qp))=>?qb) ?qh
 exact rfl
noncomputable def f22_scope:Scope:=by
 refine(?f:(?P:Prop)->Scope) ?qh
 refine fun(_:Challenge.pw_uc0057_02.main.body[22]? =some (.FunctionDef ?qn ?qa ?qb ?qd ?qr ?qt ?qs ?qv ?qc ?qp))=>?qs
 case qh=>exact rfl
noncomputable def o3 (P:Params):Obj:=⟨(.type "dict"),none,(.dict [⟨PyData.keyHash P (ofString "__name__"),(.str (ofString "__name__") 165),(.str (ofString "law_uc0057_02") 2420)⟩,⟨PyData.keyHash P (ofString "__doc__"),(.str (ofString "__doc__") 166),.none⟩,⟨PyData.keyHash P (ofString "__package__"),(.str (ofString "__package__") 167),.none⟩,⟨PyData.keyHash P (ofString "__loader__"),(.str (ofString "__loader__") 168),(.builtin "__main__.__loader__#opaque")⟩,⟨PyData.keyHash P (ofString "__spec__"),(.str (ofString "__spec__") 169),.none⟩,⟨PyData.keyHash P (ofString "__annotations__"),(.str (ofString "__annotations__") 170),(.ref 6)⟩,⟨PyData.keyHash P (ofString "__builtins__"),(.str (ofString "__builtins__") 171),(.ref 4)⟩,⟨PyData.keyHash P (ofString "__file__"),(.str (ofString "__file__") 173),(.str (ofString "/claim/cut.py") 172)⟩,⟨PyData.keyHash P (ofString "__cached__"),(.str (ofString "__cached__") 174),.none⟩,⟨PyData.keyHash P (ofString "_wall"),(.str (ofString "_wall") 193),(.ref 21)⟩,⟨PyData.keyHash P (ofString "Whitespace"),(.str (ofString "Whitespace") 295),(.ref 83)⟩,⟨PyData.keyHash P (ofString "_netrclex"),(.str (ofString "_netrclex") 355),(.ref 125)⟩,⟨PyData.keyHash P (ofString "b1_set"),(.str (ofString "b1_set") 417),(.ref 137)⟩,⟨PyData.keyHash P (ofString "in_table_b1"),(.str (ofString "in_table_b1") 424),(.ref 147)⟩,⟨PyData.keyHash P (ofString "b3_exceptions"),(.str (ofString "b3_exceptions") 2375),(.ref 148)⟩,⟨PyData.keyHash P (ofString "map_table_b3"),(.str (ofString "map_table_b3") 2383),(.ref 193)⟩,⟨PyData.keyHash P (ofString "_MAX_STRING_SIZE"),(.str (ofString "_MAX_STRING_SIZE") 2387),(.int (40) 2386)⟩,⟨PyData.keyHash P (ofString "_MOVE_COST"),(.str (ofString "_MOVE_COST") 2389),(.int (2) 2388)⟩,⟨PyData.keyHash P (ofString "_CASE_COST"),(.str (ofString "_CASE_COST") 2391),(.int (1) 2390)⟩,⟨PyData.keyHash P (ofString "_substitution_cost"),(.str (ofString "_substitution_cost") 2399),(.ref 200)⟩,⟨PyData.keyHash P (ofString "_levenshtein_distance"),(.str (ofString "_levenshtein_distance") 2419),(.ref 207)⟩,⟨PyData.keyHash P (ofString "_law_lexer"),(.str (ofString "_law_lexer") 2430),(.ref 214)⟩,⟨PyData.keyHash P (ofString "_law_typed"),(.str (ofString "_law_typed") 2443),(.ref 221)⟩,⟨PyData.keyHash P (ofString "_law_spelled"),(.str (ofString "_law_spelled") 2449),(.ref 226)⟩,⟨PyData.keyHash P (ofString "_law_column"),(.str (ofString "_law_column") 2459),(.ref 233)⟩,⟨PyData.keyHash P (ofString "_law_page"),(.str (ofString "_law_page") 2465),(.ref 238)⟩,⟨PyData.keyHash P (ofString "law"),(.str (ofString "law") 2471),(.ref 243)⟩].toArray 27),[].toArray⟩
noncomputable def o4 (P:Params):Obj:=⟨(.type "module"),(some 0),.plain,[].toArray⟩
noncomputable def o5 (P:Params):Obj:=⟨(.type "module"),(some 3),.plain,[].toArray⟩
noncomputable def o6 (P:Params):Obj:=⟨(.type "dict"),none,(.dict [].toArray 0),[].toArray⟩
noncomputable def o7 (P:Params):Obj:=⟨(.type "tuple"),none,(.seq [].toArray 0),[].toArray⟩
noncomputable def o9 (P:Params):Obj:=⟨(.type "code"),none,(.fields [(.str (ofString "<module>") 176),(.str (ofString "<module>") 177),(.str (ofString "/claim/cut.py") 178),(.int (1) 0),(.int (0) 0),(.int (0) 0),(.int (0) 0),(.int (0) 0),(.ref 7),(.bool false),(.int (175) 0),(.ref 8),.none,.none,.none,.none,(.int (179) 0),(.int (1) 0),(.str (ofString "/claim/cut.py") 180)].toArray),[].toArray⟩
noncomputable def o10 (P:Params):Obj:=⟨(.type "frame"),none,.plain,[(some (.ref 9)),(some (.ref 3)),(some (.ref 3)),none,(some (.str (ofString "__main__") 164)),none,(some (.ref 0))].toArray⟩
noncomputable def o11 (P:Params):Obj:=⟨(.type "tuple"),none,(.seq [].toArray 0),[].toArray⟩
noncomputable def o13 (P:Params):Obj:=⟨(.type "code"),none,(.fields [(.str (ofString "<module>") 182),(.str (ofString "<module>") 183),(.str (ofString "/claim/cut.py") 184),(.int (1) 0),(.int (0) 0),(.int (0) 0),(.int (0) 0),(.int (0) 0),(.ref 11),(.bool false),(.int (181) 0),(.ref 12),.none,.none,.none,.none,(.int (185) 0),(.int (1) 0),(.str (ofString "/claim/cut.py") 186)].toArray),[].toArray⟩
noncomputable def o14 (P:Params):Obj:=⟨(.type "frame"),none,.plain,[(some (.ref 13)),(some (.ref 3)),(some (.ref 3)),none,(some (.str (ofString "__main__") 164)),none,(some (.ref 0))].toArray⟩
noncomputable def o15 (P:Params):Obj:=⟨(.type "tuple"),none,(.seq [].toArray 0),[].toArray⟩
noncomputable def o17 (P:Params):Obj:=⟨(.type "tuple"),none,(.seq [(.str (ofString "k") 190)].toArray 0),[].toArray⟩
noncomputable def o18 (P:Params):Obj:=⟨(.type "tuple"),none,(.seq [].toArray 0),[].toArray⟩
noncomputable def o20 (P:Params):Obj:=⟨(.type "code"),none,(.fields [(.str (ofString "_wall") 187),(.str (ofString "_wall") 188),(.str (ofString "/claim/cut.py") 189),(.int (1) 0),(.int (1) 0),(.int (0) 0),(.int (0) 0),(.int (3) 0),(.ref 15),(.bool true),(.int (181) 0),(.ref 16),.none,(.ref 17),(.ref 18),(.ref 19),(.int (191) 0),(.int (1) 0),(.str (ofString "/claim/cut.py") 192)].toArray),[].toArray⟩
noncomputable def o21 (P:Params):Obj:=⟨(.type "function"),none,(.func { name:=(ofString "_wall"),qualname:=(ofString "_wall"),params:=f0_args,body:=.stmts f0_body,scope:=f0_scope,globals:=3,closure:=[],defaults:=.none,kwdefaults:=.none,doc:=.none,pyModule:=(.str (ofString "__main__") 164),annotations:=none,code:=(.ref 20),closureTuple:=.none,builtins:=0 }),[].toArray⟩
noncomputable def o22 (P:Params):Obj:=⟨(.type "tuple"),none,(.seq [].toArray 0),[].toArray⟩
noncomputable def o23 (P:Params):Obj:=⟨(.type "builtin_function_or_method"),none,(.fields [(.builtin "type.__prepare__"),(.type "type")].toArray),[].toArray⟩
noncomputable def o24 (P:Params):Obj:=⟨(.type "dict"),none,(.dict [⟨PyData.keyHash P (ofString "__module__"),(.str (ofString "__module__") 203),(.str (ofString "cpy313.tabnanny") 194)⟩,⟨PyData.keyHash P (ofString "__qualname__"),(.str (ofString "__qualname__") 205),(.str (ofString "Whitespace") 204)⟩,⟨PyData.keyHash P (ofString "__firstlineno__"),(.str (ofString "__firstlineno__") 207),(.int (5) 206)⟩,⟨PyData.keyHash P (ofString "S"),(.str (ofString "S") 211),(.str (ofString " ") 209)⟩,⟨PyData.keyHash P (ofString "T"),(.str (ofString "T") 212),(.str (ofString "\t") 210)⟩,⟨PyData.keyHash P (ofString "__init__"),(.str (ofString "__init__") 227),(.ref 38)⟩,⟨PyData.keyHash P (ofString "longest_run_of_spaces"),(.str (ofString "longest_run_of_spaces") 236),(.ref 45)⟩,⟨PyData.keyHash P (ofString "indent_level"),(.str (ofString "indent_level") 248),(.ref 52)⟩,⟨PyData.keyHash P (ofString "equal"),(.str (ofString "equal") 256),(.ref 59)⟩,⟨PyData.keyHash P (ofString "not_equal_witness"),(.str (ofString "not_equal_witness") 264),(.ref 66)⟩,⟨PyData.keyHash P (ofString "less"),(.str (ofString "less") 274),(.ref 73)⟩,⟨PyData.keyHash P (ofString "not_less_witness"),(.str (ofString "not_less_witness") 282),(.ref 80)⟩,⟨PyData.keyHash P (ofString "__static_attributes__"),(.str (ofString "__static_attributes__") 288),(.ref 81)⟩].toArray 13),[].toArray⟩
noncomputable def o25 (P:Params):Obj:=⟨(.type "tuple"),none,(.seq [].toArray 0),[].toArray⟩
noncomputable def o27 (P:Params):Obj:=⟨(.type "code"),none,(.fields [(.str (ofString "Whitespace") 198),(.str (ofString "Whitespace") 199),(.str (ofString "/claim/cut.py") 200),(.int (5) 0),(.int (0) 0),(.int (0) 0),(.int (0) 0),(.int (0) 0),(.ref 25),(.bool false),(.int (181) 0),(.ref 26),.none,.none,.none,.none,(.int (201) 0),(.int (5) 0),(.str (ofString "/claim/cut.py") 202)].toArray),[].toArray⟩
noncomputable def o28 (P:Params):Obj:=⟨(.type "frame"),none,.plain,[(some (.ref 27)),(some (.ref 3)),(some (.ref 24)),none,(some (.str (ofString "cpy313.tabnanny") 194)),none,(some (.ref 0))].toArray⟩
noncomputable def o29 (P:Params):Obj:=⟨(.type "str_ascii_iterator"),none,(.fields [.none,(.int (2) 0)].toArray),[].toArray⟩
noncomputable def o30 (P:Params):Obj:=⟨(.type "tuple"),none,(.seq [].toArray 0),[].toArray⟩
noncomputable def o31 (P:Params):Obj:=⟨(.type "StopIteration"),none,(.fields [(.ref 30),.none,.none,.none,(.bool false),.none].toArray),[].toArray⟩
noncomputable def o32 (P:Params):Obj:=⟨(.type "tuple"),none,(.seq [].toArray 0),[].toArray⟩
noncomputable def o34 (P:Params):Obj:=⟨(.type "tuple"),none,(.seq [(.str (ofString "self") 216),(.str (ofString "ws") 217),(.str (ofString "S") 218),(.str (ofString "T") 219),(.str (ofString "count") 220),(.str (ofString "b") 221),(.str (ofString "n") 222),(.str (ofString "nt") 223),(.str (ofString "ch") 224)].toArray 0),[].toArray⟩
noncomputable def o35 (P:Params):Obj:=⟨(.type "tuple"),none,(.seq [].toArray 0),[].toArray⟩
noncomputable def o37 (P:Params):Obj:=⟨(.type "code"),none,(.fields [(.str (ofString "__init__") 213),(.str (ofString "Whitespace.__init__") 214),(.str (ofString "/claim/cut.py") 215),(.int (8) 0),(.int (2) 0),(.int (0) 0),(.int (0) 0),(.int (3) 0),(.ref 32),(.bool true),(.int (181) 0),(.ref 33),.none,(.ref 34),(.ref 35),(.ref 36),(.int (225) 0),(.int (8) 0),(.str (ofString "/claim/cut.py") 226)].toArray),[].toArray⟩
noncomputable def o38 (P:Params):Obj:=⟨(.type "function"),none,(.func { name:=(ofString "__init__"),qualname:=(ofString "Whitespace.__init__"),params:=f2m1_args,body:=.stmts f2m1_body,scope:=f2m1_scope,globals:=3,closure:=[],defaults:=.none,kwdefaults:=.none,doc:=.none,pyModule:=(.str (ofString "cpy313.tabnanny") 194),annotations:=none,code:=(.ref 37),closureTuple:=.none,builtins:=0 }),[].toArray⟩
noncomputable def o39 (P:Params):Obj:=⟨(.type "tuple"),none,(.seq [].toArray 0),[].toArray⟩
noncomputable def o41 (P:Params):Obj:=⟨(.type "tuple"),none,(.seq [(.str (ofString "self") 231),(.str (ofString "count") 232),(.str (ofString "trailing") 233)].toArray 0),[].toArray⟩
noncomputable def o42 (P:Params):Obj:=⟨(.type "tuple"),none,(.seq [].toArray 0),[].toArray⟩
noncomputable def o44 (P:Params):Obj:=⟨(.type "code"),none,(.fields [(.str (ofString "longest_run_of_spaces") 228),(.str (ofString "Whitespace.longest_run_of_spaces") 229),(.str (ofString "/claim/cut.py") 230),(.int (31) 0),(.int (1) 0),(.int (0) 0),(.int (0) 0),(.int (3) 0),(.ref 39),(.bool true),(.int (181) 0),(.ref 40),.none,(.ref 41),(.ref 42),(.ref 43),(.int (234) 0),(.int (31) 0),(.str (ofString "/claim/cut.py") 235)].toArray),[].toArray⟩
noncomputable def o45 (P:Params):Obj:=⟨(.type "function"),none,(.func { name:=(ofString "longest_run_of_spaces"),qualname:=(ofString "Whitespace.longest_run_of_spaces"),params:=f2m2_args,body:=.stmts f2m2_body,scope:=f2m2_scope,globals:=3,closure:=[],defaults:=.none,kwdefaults:=.none,doc:=.none,pyModule:=(.str (ofString "cpy313.tabnanny") 194),annotations:=none,code:=(.ref 44),closureTuple:=.none,builtins:=0 }),[].toArray⟩
noncomputable def o46 (P:Params):Obj:=⟨(.type "tuple"),none,(.seq [].toArray 0),[].toArray⟩
noncomputable def o48 (P:Params):Obj:=⟨(.type "tuple"),none,(.seq [(.str (ofString "self") 240),(.str (ofString "tabsize") 241),(.str (ofString "count") 242),(.str (ofString "trailing") 243),(.str (ofString "il") 244),(.str (ofString "i") 245)].toArray 0),[].toArray⟩
noncomputable def o49 (P:Params):Obj:=⟨(.type "tuple"),none,(.seq [].toArray 0),[].toArray⟩
noncomputable def o51 (P:Params):Obj:=⟨(.type "code"),none,(.fields [(.str (ofString "indent_level") 237),(.str (ofString "Whitespace.indent_level") 238),(.str (ofString "/claim/cut.py") 239),(.int (35) 0),(.int (2) 0),(.int (0) 0),(.int (0) 0),(.int (3) 0),(.ref 46),(.bool true),(.int (181) 0),(.ref 47),.none,(.ref 48),(.ref 49),(.ref 50),(.int (246) 0),(.int (35) 0),(.str (ofString "/claim/cut.py") 247)].toArray),[].toArray⟩
noncomputable def o52 (P:Params):Obj:=⟨(.type "function"),none,(.func { name:=(ofString "indent_level"),qualname:=(ofString "Whitespace.indent_level"),params:=f2m3_args,body:=.stmts f2m3_body,scope:=f2m3_scope,globals:=3,closure:=[],defaults:=.none,kwdefaults:=.none,doc:=.none,pyModule:=(.str (ofString "cpy313.tabnanny") 194),annotations:=none,code:=(.ref 51),closureTuple:=.none,builtins:=0 }),[].toArray⟩
noncomputable def o53 (P:Params):Obj:=⟨(.type "tuple"),none,(.seq [].toArray 0),[].toArray⟩
noncomputable def o55 (P:Params):Obj:=⟨(.type "tuple"),none,(.seq [(.str (ofString "self") 252),(.str (ofString "other") 253)].toArray 0),[].toArray⟩
noncomputable def o56 (P:Params):Obj:=⟨(.type "tuple"),none,(.seq [].toArray 0),[].toArray⟩
noncomputable def o58 (P:Params):Obj:=⟨(.type "code"),none,(.fields [(.str (ofString "equal") 249),(.str (ofString "Whitespace.equal") 250),(.str (ofString "/claim/cut.py") 251),(.int (42) 0),(.int (2) 0),(.int (0) 0),(.int (0) 0),(.int (3) 0),(.ref 53),(.bool true),(.int (181) 0),(.ref 54),.none,(.ref 55),(.ref 56),(.ref 57),(.int (254) 0),(.int (42) 0),(.str (ofString "/claim/cut.py") 255)].toArray),[].toArray⟩
noncomputable def o59 (P:Params):Obj:=⟨(.type "function"),none,(.func { name:=(ofString "equal"),qualname:=(ofString "Whitespace.equal"),params:=f2m4_args,body:=.stmts f2m4_body,scope:=f2m4_scope,globals:=3,closure:=[],defaults:=.none,kwdefaults:=.none,doc:=.none,pyModule:=(.str (ofString "cpy313.tabnanny") 194),annotations:=none,code:=(.ref 58),closureTuple:=.none,builtins:=0 }),[].toArray⟩
noncomputable def o60 (P:Params):Obj:=⟨(.type "tuple"),none,(.seq [].toArray 0),[].toArray⟩
noncomputable def o62 (P:Params):Obj:=⟨(.type "tuple"),none,(.seq [(.str (ofString "self") 260),(.str (ofString "other") 261)].toArray 0),[].toArray⟩
noncomputable def o63 (P:Params):Obj:=⟨(.type "tuple"),none,(.seq [].toArray 0),[].toArray⟩
noncomputable def o65 (P:Params):Obj:=⟨(.type "code"),none,(.fields [(.str (ofString "not_equal_witness") 257),(.str (ofString "Whitespace.not_equal_witness") 258),(.str (ofString "/claim/cut.py") 259),(.int (45) 0),(.int (2) 0),(.int (0) 0),(.int (0) 0),(.int (3) 0),(.ref 60),(.bool true),(.int (181) 0),(.ref 61),.none,(.ref 62),(.ref 63),(.ref 64),(.int (262) 0),(.int (45) 0),(.str (ofString "/claim/cut.py") 263)].toArray),[].toArray⟩
noncomputable def o66 (P:Params):Obj:=⟨(.type "function"),none,(.func { name:=(ofString "not_equal_witness"),qualname:=(ofString "Whitespace.not_equal_witness"),params:=f2m5_args,body:=.stmts f2m5_body,scope:=f2m5_scope,globals:=3,closure:=[],defaults:=.none,kwdefaults:=.none,doc:=.none,pyModule:=(.str (ofString "cpy313.tabnanny") 194),annotations:=none,code:=(.ref 65),closureTuple:=.none,builtins:=0 }),[].toArray⟩
noncomputable def o67 (P:Params):Obj:=⟨(.type "tuple"),none,(.seq [].toArray 0),[].toArray⟩
noncomputable def o69 (P:Params):Obj:=⟨(.type "tuple"),none,(.seq [(.str (ofString "self") 268),(.str (ofString "other") 269),(.str (ofString "n") 270),(.str (ofString "ts") 271)].toArray 0),[].toArray⟩
noncomputable def o70 (P:Params):Obj:=⟨(.type "tuple"),none,(.seq [].toArray 0),[].toArray⟩
noncomputable def o72 (P:Params):Obj:=⟨(.type "code"),none,(.fields [(.str (ofString "less") 265),(.str (ofString "Whitespace.less") 266),(.str (ofString "/claim/cut.py") 267),(.int (48) 0),(.int (2) 0),(.int (0) 0),(.int (0) 0),(.int (3) 0),(.ref 67),(.bool true),(.int (181) 0),(.ref 68),.none,(.ref 69),(.ref 70),(.ref 71),(.int (272) 0),(.int (48) 0),(.str (ofString "/claim/cut.py") 273)].toArray),[].toArray⟩
noncomputable def o73 (P:Params):Obj:=⟨(.type "function"),none,(.func { name:=(ofString "less"),qualname:=(ofString "Whitespace.less"),params:=f2m6_args,body:=.stmts f2m6_body,scope:=f2m6_scope,globals:=3,closure:=[],defaults:=.none,kwdefaults:=.none,doc:=.none,pyModule:=(.str (ofString "cpy313.tabnanny") 194),annotations:=none,code:=(.ref 72),closureTuple:=.none,builtins:=0 }),[].toArray⟩
noncomputable def o74 (P:Params):Obj:=⟨(.type "tuple"),none,(.seq [].toArray 0),[].toArray⟩
noncomputable def o76 (P:Params):Obj:=⟨(.type "tuple"),none,(.seq [(.str (ofString "self") 278),(.str (ofString "other") 279)].toArray 0),[].toArray⟩
noncomputable def o77 (P:Params):Obj:=⟨(.type "tuple"),none,(.seq [].toArray 0),[].toArray⟩
noncomputable def o79 (P:Params):Obj:=⟨(.type "code"),none,(.fields [(.str (ofString "not_less_witness") 275),(.str (ofString "Whitespace.not_less_witness") 276),(.str (ofString "/claim/cut.py") 277),(.int (59) 0),(.int (2) 0),(.int (0) 0),(.int (0) 0),(.int (3) 0),(.ref 74),(.bool true),(.int (181) 0),(.ref 75),.none,(.ref 76),(.ref 77),(.ref 78),(.int (280) 0),(.int (59) 0),(.str (ofString "/claim/cut.py") 281)].toArray),[].toArray⟩
noncomputable def o80 (P:Params):Obj:=⟨(.type "function"),none,(.func { name:=(ofString "not_less_witness"),qualname:=(ofString "Whitespace.not_less_witness"),params:=f2m7_args,body:=.stmts f2m7_body,scope:=f2m7_scope,globals:=3,closure:=[],defaults:=.none,kwdefaults:=.none,doc:=.none,pyModule:=(.str (ofString "cpy313.tabnanny") 194),annotations:=none,code:=(.ref 79),closureTuple:=.none,builtins:=0 }),[].toArray⟩
noncomputable def o81 (P:Params):Obj:=⟨(.type "tuple"),none,(.seq [(.str (ofString "is_simple") 283),(.str (ofString "n") 284),(.str (ofString "norm") 285),(.str (ofString "nt") 286),(.str (ofString "raw") 287)].toArray 0),[].toArray⟩
noncomputable def o82 (P:Params):Obj:=⟨(.type "dict"),none,(.dict [⟨PyData.keyHash P (ofString "__module__"),(.str (ofString "__module__") 203),(.str (ofString "cpy313.tabnanny") 194)⟩,⟨PyData.keyHash P (ofString "__firstlineno__"),(.str (ofString "__firstlineno__") 207),(.int (5) 206)⟩,⟨PyData.keyHash P (ofString "S"),(.str (ofString "S") 211),(.str (ofString " ") 209)⟩,⟨PyData.keyHash P (ofString "T"),(.str (ofString "T") 212),(.str (ofString "\t") 210)⟩,⟨PyData.keyHash P (ofString "__init__"),(.str (ofString "__init__") 227),(.ref 38)⟩,⟨PyData.keyHash P (ofString "longest_run_of_spaces"),(.str (ofString "longest_run_of_spaces") 236),(.ref 45)⟩,⟨PyData.keyHash P (ofString "indent_level"),(.str (ofString "indent_level") 248),(.ref 52)⟩,⟨PyData.keyHash P (ofString "equal"),(.str (ofString "equal") 256),(.ref 59)⟩,⟨PyData.keyHash P (ofString "not_equal_witness"),(.str (ofString "not_equal_witness") 264),(.ref 66)⟩,⟨PyData.keyHash P (ofString "less"),(.str (ofString "less") 274),(.ref 73)⟩,⟨PyData.keyHash P (ofString "not_less_witness"),(.str (ofString "not_less_witness") 282),(.ref 80)⟩,⟨PyData.keyHash P (ofString "__static_attributes__"),(.str (ofString "__static_attributes__") 288),(.ref 81)⟩,⟨PyData.keyHash P (ofString "__dict__"),(.str (ofString "__dict__") 290),(.ref 84)⟩,⟨PyData.keyHash P (ofString "__weakref__"),(.str (ofString "__weakref__") 292),(.ref 85)⟩,⟨PyData.keyHash P (ofString "__doc__"),(.str (ofString "__doc__") 293),.none⟩].toArray 4),[].toArray⟩
noncomputable def o83 (P:Params):Obj:=⟨(.type "type"),none,(.cls { name:=(ofString "Whitespace"),bases:=[(.type "object")],mro:=[(.ref 83),(.type "object")],ns:=82,qualname:=(ofString "Whitespace"),hasDict:=true,slotNames:=[],subclasses:=[],abstract:=false,collection:=none,hasDel:=false }),[none,none,(some (.str (ofString "Whitespace") 196)),(some (.str (ofString "Whitespace") 204)),(some (.builtin "object.__new__")),(some (.bool true))].toArray⟩
noncomputable def o84 (P:Params):Obj:=⟨(.type "getset_descriptor"),none,(.fields [(.str (ofString "__dict__") 289),(.ref 83),(.builtin "function.__dict__"),(.builtin "function.__dict__#set")].toArray),[].toArray⟩
noncomputable def o85 (P:Params):Obj:=⟨(.type "getset_descriptor"),none,(.fields [(.str (ofString "__weakref__") 291),(.ref 83),(.builtin "ExceptionGroup.__weakref__"),.none].toArray),[].toArray⟩
noncomputable def o86 (P:Params):Obj:=⟨(.type "super"),none,(.fields [(.ref 83),(.ref 83),(.ref 83)].toArray),[].toArray⟩
noncomputable def o87 (P:Params):Obj:=⟨(.type "builtin_function_or_method"),none,(.fields [(.builtin "object.__init_subclass__"),(.ref 83)].toArray),[].toArray⟩
noncomputable def o88 (P:Params):Obj:=⟨(.type "tuple"),none,(.seq [].toArray 0),[].toArray⟩
noncomputable def o89 (P:Params):Obj:=⟨(.type "builtin_function_or_method"),none,(.fields [(.builtin "type.__prepare__"),(.type "type")].toArray),[].toArray⟩
noncomputable def o90 (P:Params):Obj:=⟨(.type "dict"),none,(.dict [⟨PyData.keyHash P (ofString "__module__"),(.str (ofString "__module__") 305),(.str (ofString "cpy313.netrc") 296)⟩,⟨PyData.keyHash P (ofString "__qualname__"),(.str (ofString "__qualname__") 307),(.str (ofString "_netrclex") 306)⟩,⟨PyData.keyHash P (ofString "__firstlineno__"),(.str (ofString "__firstlineno__") 309),(.int (62) 308)⟩,⟨PyData.keyHash P (ofString "__init__"),(.str (ofString "__init__") 317),(.ref 101)⟩,⟨PyData.keyHash P (ofString "_read_char"),(.str (ofString "_read_char") 325),(.ref 108)⟩,⟨PyData.keyHash P (ofString "get_token"),(.str (ofString "get_token") 335),(.ref 115)⟩,⟨PyData.keyHash P (ofString "push_token"),(.str (ofString "push_token") 343),(.ref 122)⟩,⟨PyData.keyHash P (ofString "__static_attributes__"),(.str (ofString "__static_attributes__") 348),(.ref 123)⟩].toArray 8),[].toArray⟩
noncomputable def o91 (P:Params):Obj:=⟨(.type "tuple"),none,(.seq [].toArray 0),[].toArray⟩
noncomputable def o93 (P:Params):Obj:=⟨(.type "code"),none,(.fields [(.str (ofString "_netrclex") 300),(.str (ofString "_netrclex") 301),(.str (ofString "/claim/cut.py") 302),(.int (62) 0),(.int (0) 0),(.int (0) 0),(.int (0) 0),(.int (0) 0),(.ref 91),(.bool false),(.int (181) 0),(.ref 92),.none,.none,.none,.none,(.int (303) 0),(.int (62) 0),(.str (ofString "/claim/cut.py") 304)].toArray),[].toArray⟩
noncomputable def o94 (P:Params):Obj:=⟨(.type "frame"),none,.plain,[(some (.ref 93)),(some (.ref 3)),(some (.ref 90)),none,(some (.str (ofString "cpy313.netrc") 296)),none,(some (.ref 0))].toArray⟩
noncomputable def o95 (P:Params):Obj:=⟨(.type "tuple"),none,(.seq [].toArray 0),[].toArray⟩
noncomputable def o97 (P:Params):Obj:=⟨(.type "tuple"),none,(.seq [(.str (ofString "self") 313),(.str (ofString "fp") 314)].toArray 0),[].toArray⟩
noncomputable def o98 (P:Params):Obj:=⟨(.type "tuple"),none,(.seq [].toArray 0),[].toArray⟩
noncomputable def o100 (P:Params):Obj:=⟨(.type "code"),none,(.fields [(.str (ofString "__init__") 310),(.str (ofString "_netrclex.__init__") 311),(.str (ofString "/claim/cut.py") 312),(.int (64) 0),(.int (2) 0),(.int (0) 0),(.int (0) 0),(.int (3) 0),(.ref 95),(.bool true),(.int (181) 0),(.ref 96),.none,(.ref 97),(.ref 98),(.ref 99),(.int (315) 0),(.int (64) 0),(.str (ofString "/claim/cut.py") 316)].toArray),[].toArray⟩
noncomputable def o101 (P:Params):Obj:=⟨(.type "function"),none,(.func { name:=(ofString "__init__"),qualname:=(ofString "_netrclex.__init__"),params:=f4m0_args,body:=.stmts f4m0_body,scope:=f4m0_scope,globals:=3,closure:=[],defaults:=.none,kwdefaults:=.none,doc:=.none,pyModule:=(.str (ofString "cpy313.netrc") 296),annotations:=none,code:=(.ref 100),closureTuple:=.none,builtins:=0 }),[].toArray⟩
noncomputable def o102 (P:Params):Obj:=⟨(.type "tuple"),none,(.seq [].toArray 0),[].toArray⟩
noncomputable def o104 (P:Params):Obj:=⟨(.type "tuple"),none,(.seq [(.str (ofString "self") 321),(.str (ofString "ch") 322)].toArray 0),[].toArray⟩
noncomputable def o105 (P:Params):Obj:=⟨(.type "tuple"),none,(.seq [].toArray 0),[].toArray⟩
noncomputable def o107 (P:Params):Obj:=⟨(.type "code"),none,(.fields [(.str (ofString "_read_char") 318),(.str (ofString "_netrclex._read_char") 319),(.str (ofString "/claim/cut.py") 320),(.int (70) 0),(.int (1) 0),(.int (0) 0),(.int (0) 0),(.int (3) 0),(.ref 102),(.bool true),(.int (181) 0),(.ref 103),.none,(.ref 104),(.ref 105),(.ref 106),(.int (323) 0),(.int (70) 0),(.str (ofString "/claim/cut.py") 324)].toArray),[].toArray⟩
noncomputable def o108 (P:Params):Obj:=⟨(.type "function"),none,(.func { name:=(ofString "_read_char"),qualname:=(ofString "_netrclex._read_char"),params:=f4m1_args,body:=.stmts f4m1_body,scope:=f4m1_scope,globals:=3,closure:=[],defaults:=.none,kwdefaults:=.none,doc:=.none,pyModule:=(.str (ofString "cpy313.netrc") 296),annotations:=none,code:=(.ref 107),closureTuple:=.none,builtins:=0 }),[].toArray⟩
noncomputable def o109 (P:Params):Obj:=⟨(.type "tuple"),none,(.seq [].toArray 0),[].toArray⟩
noncomputable def o111 (P:Params):Obj:=⟨(.type "tuple"),none,(.seq [(.str (ofString "self") 329),(.str (ofString "token") 330),(.str (ofString "fiter") 331),(.str (ofString "ch") 332)].toArray 0),[].toArray⟩
noncomputable def o112 (P:Params):Obj:=⟨(.type "tuple"),none,(.seq [].toArray 0),[].toArray⟩
noncomputable def o114 (P:Params):Obj:=⟨(.type "code"),none,(.fields [(.str (ofString "get_token") 326),(.str (ofString "_netrclex.get_token") 327),(.str (ofString "/claim/cut.py") 328),(.int (76) 0),(.int (1) 0),(.int (0) 0),(.int (0) 0),(.int (3) 0),(.ref 109),(.bool true),(.int (181) 0),(.ref 110),.none,(.ref 111),(.ref 112),(.ref 113),(.int (333) 0),(.int (76) 0),(.str (ofString "/claim/cut.py") 334)].toArray),[].toArray⟩
noncomputable def o115 (P:Params):Obj:=⟨(.type "function"),none,(.func { name:=(ofString "get_token"),qualname:=(ofString "_netrclex.get_token"),params:=f4m2_args,body:=.stmts f4m2_body,scope:=f4m2_scope,globals:=3,closure:=[],defaults:=.none,kwdefaults:=.none,doc:=.none,pyModule:=(.str (ofString "cpy313.netrc") 296),annotations:=none,code:=(.ref 114),closureTuple:=.none,builtins:=0 }),[].toArray⟩
noncomputable def o116 (P:Params):Obj:=⟨(.type "tuple"),none,(.seq [].toArray 0),[].toArray⟩
noncomputable def o118 (P:Params):Obj:=⟨(.type "tuple"),none,(.seq [(.str (ofString "self") 339),(.str (ofString "token") 340)].toArray 0),[].toArray⟩
noncomputable def o119 (P:Params):Obj:=⟨(.type "tuple"),none,(.seq [].toArray 0),[].toArray⟩
noncomputable def o121 (P:Params):Obj:=⟨(.type "code"),none,(.fields [(.str (ofString "push_token") 336),(.str (ofString "_netrclex.push_token") 337),(.str (ofString "/claim/cut.py") 338),(.int (103) 0),(.int (2) 0),(.int (0) 0),(.int (0) 0),(.int (3) 0),(.ref 116),(.bool true),(.int (181) 0),(.ref 117),.none,(.ref 118),(.ref 119),(.ref 120),(.int (341) 0),(.int (103) 0),(.str (ofString "/claim/cut.py") 342)].toArray),[].toArray⟩
noncomputable def o122 (P:Params):Obj:=⟨(.type "function"),none,(.func { name:=(ofString "push_token"),qualname:=(ofString "_netrclex.push_token"),params:=f4m3_args,body:=.stmts f4m3_body,scope:=f4m3_scope,globals:=3,closure:=[],defaults:=.none,kwdefaults:=.none,doc:=.none,pyModule:=(.str (ofString "cpy313.netrc") 296),annotations:=none,code:=(.ref 121),closureTuple:=.none,builtins:=0 }),[].toArray⟩
noncomputable def o123 (P:Params):Obj:=⟨(.type "tuple"),none,(.seq [(.str (ofString "instream") 344),(.str (ofString "lineno") 345),(.str (ofString "pushback") 346),(.str (ofString "whitespace") 347)].toArray 0),[].toArray⟩
noncomputable def o124 (P:Params):Obj:=⟨(.type "dict"),none,(.dict [⟨PyData.keyHash P (ofString "__module__"),(.str (ofString "__module__") 305),(.str (ofString "cpy313.netrc") 296)⟩,⟨PyData.keyHash P (ofString "__firstlineno__"),(.str (ofString "__firstlineno__") 309),(.int (62) 308)⟩,⟨PyData.keyHash P (ofString "__init__"),(.str (ofString "__init__") 317),(.ref 101)⟩,⟨PyData.keyHash P (ofString "_read_char"),(.str (ofString "_read_char") 325),(.ref 108)⟩,⟨PyData.keyHash P (ofString "get_token"),(.str (ofString "get_token") 335),(.ref 115)⟩,⟨PyData.keyHash P (ofString "push_token"),(.str (ofString "push_token") 343),(.ref 122)⟩,⟨PyData.keyHash P (ofString "__static_attributes__"),(.str (ofString "__static_attributes__") 348),(.ref 123)⟩,⟨PyData.keyHash P (ofString "__dict__"),(.str (ofString "__dict__") 350),(.ref 126)⟩,⟨PyData.keyHash P (ofString "__weakref__"),(.str (ofString "__weakref__") 352),(.ref 127)⟩,⟨PyData.keyHash P (ofString "__doc__"),(.str (ofString "__doc__") 353),.none⟩].toArray 4),[].toArray⟩
noncomputable def o125 (P:Params):Obj:=⟨(.type "type"),none,(.cls { name:=(ofString "_netrclex"),bases:=[(.type "object")],mro:=[(.ref 125),(.type "object")],ns:=124,qualname:=(ofString "_netrclex"),hasDict:=true,slotNames:=[],subclasses:=[],abstract:=false,collection:=none,hasDel:=false }),[none,none,(some (.str (ofString "_netrclex") 298)),(some (.str (ofString "_netrclex") 306)),(some (.builtin "object.__new__")),(some (.bool true))].toArray⟩
noncomputable def o126 (P:Params):Obj:=⟨(.type "getset_descriptor"),none,(.fields [(.str (ofString "__dict__") 349),(.ref 125),(.builtin "function.__dict__"),(.builtin "function.__dict__#set")].toArray),[].toArray⟩
noncomputable def o127 (P:Params):Obj:=⟨(.type "getset_descriptor"),none,(.fields [(.str (ofString "__weakref__") 351),(.ref 125),(.builtin "ExceptionGroup.__weakref__"),.none].toArray),[].toArray⟩
noncomputable def o128 (P:Params):Obj:=⟨(.type "super"),none,(.fields [(.ref 125),(.ref 125),(.ref 125)].toArray),[].toArray⟩
noncomputable def o129 (P:Params):Obj:=⟨(.type "builtin_function_or_method"),none,(.fields [(.builtin "object.__init_subclass__"),(.ref 125)].toArray),[].toArray⟩
noncomputable def o130 (P:Params):Obj:=⟨(.type "list"),none,(.seq [(.int (173) 358),(.int (847) 359),(.int (6150) 360),(.int (6155) 361),(.int (6156) 362),(.int (6157) 363),(.int (8203) 364),(.int (8204) 365),(.int (8205) 366),(.int (8288) 367),(.int (65279) 368)].toArray 0),[].toArray⟩
noncomputable def o131 (P:Params):Obj:=⟨(.type "range"),none,(.fields [(.int (65024) 369),(.int (65040) 370),(.int (1) 371)].toArray),[].toArray⟩
noncomputable def o132 (P:Params):Obj:=⟨(.type "list"),none,(.seq [(.int (65024) 374),(.int (65025) 375),(.int (65026) 376),(.int (65027) 377),(.int (65028) 378),(.int (65029) 379),(.int (65030) 380),(.int (65031) 381),(.int (65032) 382),(.int (65033) 383),(.int (65034) 384),(.int (65035) 385),(.int (65036) 386),(.int (65037) 387),(.int (65038) 388),(.int (65039) 389)].toArray 18),[].toArray⟩
noncomputable def o133 (P:Params):Obj:=⟨(.type "range_iterator"),none,(.fields [(.int (65040) 0),(.int (0) 0),(.int (1) 0)].toArray),[].toArray⟩
noncomputable def o134 (P:Params):Obj:=⟨(.type "tuple"),none,(.seq [].toArray 0),[].toArray⟩
noncomputable def o135 (P:Params):Obj:=⟨(.type "StopIteration"),none,(.fields [(.ref 134),.none,.none,.none,(.bool false),.none].toArray),[].toArray⟩
noncomputable def o136 (P:Params):Obj:=⟨(.type "list"),none,(.seq [(.int (173) 358),(.int (847) 359),(.int (6150) 360),(.int (6155) 361),(.int (6156) 362),(.int (6157) 363),(.int (8203) 364),(.int (8204) 365),(.int (8205) 366),(.int (8288) 367),(.int (65279) 368),(.int (65024) 374),(.int (65025) 375),(.int (65026) 376),(.int (65027) 377),(.int (65028) 378),(.int (65029) 379),(.int (65030) 380),(.int (65031) 381),(.int (65032) 382),(.int (65033) 383),(.int (65034) 384),(.int (65035) 385),(.int (65036) 386),(.int (65037) 387),(.int (65038) 388),(.int (65039) 389)].toArray 0),[].toArray⟩
noncomputable def o137 (P:Params):Obj:=⟨(.type "set"),none,(.set [(65024,(.int (65024) 374)),(65025,(.int (65025) 375)),(65026,(.int (65026) 376)),(65027,(.int (65027) 377)),(65028,(.int (65028) 378)),(65029,(.int (65029) 379)),(6150,(.int (6150) 360)),(65030,(.int (65030) 380)),(65031,(.int (65031) 381)),(65032,(.int (65032) 382)),(65033,(.int (65033) 383)),(6155,(.int (6155) 361)),(6156,(.int (6156) 362)),(6157,(.int (6157) 363)),(8203,(.int (8203) 364)),(8204,(.int (8204) 365)),(8205,(.int (8205) 366)),(65034,(.int (65034) 384)),(65035,(.int (65035) 385)),(65036,(.int (65036) 386)),(65037,(.int (65037) 387)),(65038,(.int (65038) 388)),(65039,(.int (65039) 389)),(173,(.int (173) 358)),(847,(.int (847) 359)),(8288,(.int (8288) 367)),(65279,(.int (65279) 368))].toArray 29 { mask:=127,place:=#[0,1,2,3,4,5,6,7,8,9,10,11,12,13,14,15,16,17,18,19,20,21,22,45,79,96,127],dummies:=#[],finger:=0,led:= !P.followText "set-order",moves:=2,plain:=true }),[].toArray⟩
noncomputable def o138 (P:Params):Obj:=⟨(.type "list_iterator"),none,(.fields [.none,(.int (27) 0)].toArray),[].toArray⟩
noncomputable def o139 (P:Params):Obj:=⟨(.type "tuple"),none,(.seq [].toArray 0),[].toArray⟩
noncomputable def o140 (P:Params):Obj:=⟨(.type "StopIteration"),none,(.fields [(.ref 139),.none,.none,.none,(.bool false),.none].toArray),[].toArray⟩
noncomputable def o141 (P:Params):Obj:=⟨(.type "tuple"),none,(.seq [].toArray 0),[].toArray⟩
noncomputable def o143 (P:Params):Obj:=⟨(.type "tuple"),none,(.seq [(.str (ofString "code") 421)].toArray 0),[].toArray⟩
noncomputable def o144 (P:Params):Obj:=⟨(.type "tuple"),none,(.seq [].toArray 0),[].toArray⟩
noncomputable def o146 (P:Params):Obj:=⟨(.type "code"),none,(.fields [(.str (ofString "in_table_b1") 418),(.str (ofString "in_table_b1") 419),(.str (ofString "/claim/cut.py") 420),(.int (107) 0),(.int (1) 0),(.int (0) 0),(.int (0) 0),(.int (3) 0),(.ref 141),(.bool true),(.int (181) 0),(.ref 142),.none,(.ref 143),(.ref 144),(.ref 145),(.int (422) 0),(.int (107) 0),(.str (ofString "/claim/cut.py") 423)].toArray),[].toArray⟩
noncomputable def o147 (P:Params):Obj:=⟨(.type "function"),none,(.func { name:=(ofString "in_table_b1"),qualname:=(ofString "in_table_b1"),params:=f7_args,body:=.stmts f7_body,scope:=f7_scope,globals:=3,closure:=[],defaults:=.none,kwdefaults:=.none,doc:=.none,pyModule:=(.str (ofString "cpy313.stringprep") 356),annotations:=none,code:=(.ref 146),closureTuple:=.none,builtins:=0 }),[].toArray⟩
noncomputable def tabS:Stmt:=(Challenge.pw_uc0057_02.main.body[8]?).getD (.Pass ⟨0,0,0,0⟩)
noncomputable def tabDf:Expr:=.Tuple [] 0 ⟨0,0,0,0⟩
noncomputable def asgV (x:Stmt):Expr:=@PySem.Stmt.casesOn (fun e=>Expr) x (fun j i h g f e d c b a=>tabDf) (fun j i h g f e d c b a=>tabDf) (fun k j i h g f e d c b a=>tabDf) (fun b a=>tabDf) (fun b a=>tabDf) (fun c b a=>b) (fun g f e d c b a=>tabDf) (fun d c b a=>tabDf) (fun e d c b a=>tabDf) (fun e d c b a=>tabDf) (fun e d c b a=>tabDf) (fun d c b a=>tabDf) (fun d c b a=>tabDf) (fun c b a=>tabDf) (fun c b a=>tabDf) (fun c b a=>tabDf) (fun c b a=>tabDf) (fun e d c b a=>tabDf) (fun e d c b a=>tabDf) (fun c b a=>tabDf) (fun b a=>tabDf) (fun d c b a=>tabDf) (fun b a=>tabDf) (fun b a=>tabDf) (fun b a=>tabDf) (fun a=>tabDf) (fun a=>tabDf) (fun a=>tabDf)
noncomputable def dicKV (x:Expr):List (Option Expr)×List Expr:=@Expr.casesOn (fun e=>List (Option Expr)×List Expr) x (fun c b a=>([],[])) (fun c b a=>([],[])) (fun d c b a=>([],[])) (fun c b a=>([],[])) (fun d c b a=>([],[])) (fun d c b a=>([],[])) (fun c b a=>(c,b)) (fun c b a=>([],[])) (fun d c b a=>([],[])) (fun d c b a=>([],[])) (fun e d c b a=>([],[])) (fun d c b a=>([],[])) (fun b a=>([],[])) (fun b a=>([],[])) (fun b a=>([],[])) (fun d c b a=>([],[])) (fun d c b a=>([],[])) (fun d c b a=>([],[])) (fun b a=>([],[])) (fun c b a=>([],[])) (fun c b a=>([],[])) (fun c b a=>([],[])) (fun b a=>([],[])) (fun b a=>([],[])) (fun b a=>([],[])) (fun c b a=>([],[])) (fun d c b a=>([],[]))
noncomputable def cstOf (x:Expr):Option Const:=@Expr.casesOn (fun e=>Option Const) x (fun c b a=>none) (fun c b a=>none) (fun d c b a=>none) (fun c b a=>none) (fun d c b a=>none) (fun d c b a=>none) (fun c b a=>none) (fun c b a=>none) (fun d c b a=>none) (fun d c b a=>none) (fun e d c b a=>none) (fun d c b a=>none) (fun b a=>none) (fun b a=>none) (fun b a=>none) (fun d c b a=>none) (fun d c b a=>none) (fun d c b a=>none) (fun b a=>none) (fun c b a=>some c) (fun c b a=>none) (fun c b a=>none) (fun b a=>none) (fun b a=>none) (fun b a=>none) (fun c b a=>none) (fun d c b a=>none)
noncomputable def intC:Const->Option Int
 | .int k=>some k
 |_=>none
noncomputable def strC:Const->Option Str
 | .str k=>some k
 |_=>none
noncomputable def intE (x:Option Expr):Option Int:=(x.bind cstOf).bind intC
noncomputable def strE (x:Expr):Option Str:=(cstOf x).bind strC
noncomputable def tabKeys:List (Option Expr):=(dicKV (asgV tabS)).1
noncomputable def tabVals:List Expr:=(dicKV (asgV tabS)).2
noncomputable def tabTok (i:Nat):Nat:=bif Nat.blt i 647 then 425+3*i else 2365+2*(i-647)
noncomputable def tabFrom:Nat->List (Option Expr)->List Expr->List DictEntry
 |_,[],_=>[]
 |_,_::_,[]=>[]
 |i,k::ks,v::vs=>⟨(intE k).getD 0,.int ((intE k).getD 0) (tabTok i),.str ((strE v).getD Str.empty) (tabTok i+1)⟩::tabFrom (i+1) ks vs
noncomputable def o148 (_:Params):Obj:=⟨.type "dict",none,.dict (tabFrom 0 tabKeys tabVals).toArray 650,[].toArray⟩
noncomputable def o187 (P:Params):Obj:=⟨(.type "tuple"),none,(.seq [].toArray 0),[].toArray⟩
noncomputable def o189 (P:Params):Obj:=⟨(.type "tuple"),none,(.seq [(.str (ofString "code") 2379),(.str (ofString "r") 2380)].toArray 0),[].toArray⟩
noncomputable def o190 (P:Params):Obj:=⟨(.type "tuple"),none,(.seq [].toArray 0),[].toArray⟩
noncomputable def o192 (P:Params):Obj:=⟨(.type "code"),none,(.fields [(.str (ofString "map_table_b3") 2376),(.str (ofString "map_table_b3") 2377),(.str (ofString "/claim/cut.py") 2378),(.int (110) 0),(.int (1) 0),(.int (0) 0),(.int (0) 0),(.int (3) 0),(.ref 187),(.bool true),(.int (181) 0),(.ref 188),.none,(.ref 189),(.ref 190),(.ref 191),(.int (2381) 0),(.int (110) 0),(.str (ofString "/claim/cut.py") 2382)].toArray),[].toArray⟩
noncomputable def o193 (P:Params):Obj:=⟨(.type "function"),none,(.func { name:=(ofString "map_table_b3"),qualname:=(ofString "map_table_b3"),params:=f9_args,body:=.stmts f9_body,scope:=f9_scope,globals:=3,closure:=[],defaults:=.none,kwdefaults:=.none,doc:=.none,pyModule:=(.str (ofString "cpy313.stringprep") 356),annotations:=none,code:=(.ref 192),closureTuple:=.none,builtins:=0 }),[].toArray⟩
noncomputable def o194 (P:Params):Obj:=⟨(.type "tuple"),none,(.seq [].toArray 0),[].toArray⟩
noncomputable def o196 (P:Params):Obj:=⟨(.type "tuple"),none,(.seq [(.str (ofString "ch_a") 2395),(.str (ofString "ch_b") 2396)].toArray 0),[].toArray⟩
noncomputable def o197 (P:Params):Obj:=⟨(.type "tuple"),none,(.seq [].toArray 0),[].toArray⟩
noncomputable def o199 (P:Params):Obj:=⟨(.type "code"),none,(.fields [(.str (ofString "_substitution_cost") 2392),(.str (ofString "_substitution_cost") 2393),(.str (ofString "/claim/cut.py") 2394),(.int (119) 0),(.int (2) 0),(.int (0) 0),(.int (0) 0),(.int (3) 0),(.ref 194),(.bool true),(.int (181) 0),(.ref 195),.none,(.ref 196),(.ref 197),(.ref 198),(.int (2397) 0),(.int (119) 0),(.str (ofString "/claim/cut.py") 2398)].toArray),[].toArray⟩
noncomputable def o200 (P:Params):Obj:=⟨(.type "function"),none,(.func { name:=(ofString "_substitution_cost"),qualname:=(ofString "_substitution_cost"),params:=f14_args,body:=.stmts f14_body,scope:=f14_scope,globals:=3,closure:=[],defaults:=.none,kwdefaults:=.none,doc:=.none,pyModule:=(.str (ofString "cpy313.traceback") 2384),annotations:=none,code:=(.ref 199),closureTuple:=.none,builtins:=0 }),[].toArray⟩
noncomputable def o201 (P:Params):Obj:=⟨(.type "tuple"),none,(.seq [].toArray 0),[].toArray⟩
noncomputable def o203 (P:Params):Obj:=⟨(.type "tuple"),none,(.seq [(.str (ofString "a") 2403),(.str (ofString "b") 2404),(.str (ofString "max_cost") 2405),(.str (ofString "pre") 2406),(.str (ofString "post") 2407),(.str (ofString "row") 2408),(.str (ofString "result") 2409),(.str (ofString "bindex") 2410),(.str (ofString "bchar") 2411),(.str (ofString "distance") 2412),(.str (ofString "minimum") 2413),(.str (ofString "index") 2414),(.str (ofString "substitute") 2415),(.str (ofString "insert_delete") 2416)].toArray 0),[].toArray⟩
noncomputable def o204 (P:Params):Obj:=⟨(.type "tuple"),none,(.seq [].toArray 0),[].toArray⟩
noncomputable def o206 (P:Params):Obj:=⟨(.type "code"),none,(.fields [(.str (ofString "_levenshtein_distance") 2400),(.str (ofString "_levenshtein_distance") 2401),(.str (ofString "/claim/cut.py") 2402),(.int (125) 0),(.int (3) 0),(.int (0) 0),(.int (0) 0),(.int (3) 0),(.ref 201),(.bool true),(.int (181) 0),(.ref 202),.none,(.ref 203),(.ref 204),(.ref 205),(.int (2417) 0),(.int (125) 0),(.str (ofString "/claim/cut.py") 2418)].toArray),[].toArray⟩
noncomputable def o207 (P:Params):Obj:=⟨(.type "function"),none,(.func { name:=(ofString "_levenshtein_distance"),qualname:=(ofString "_levenshtein_distance"),params:=f15_args,body:=.stmts f15_body,scope:=f15_scope,globals:=3,closure:=[],defaults:=.none,kwdefaults:=.none,doc:=.none,pyModule:=(.str (ofString "cpy313.traceback") 2384),annotations:=none,code:=(.ref 206),closureTuple:=.none,builtins:=0 }),[].toArray⟩
noncomputable def o208 (P:Params):Obj:=⟨(.type "tuple"),none,(.seq [].toArray 0),[].toArray⟩
noncomputable def o210 (P:Params):Obj:=⟨(.type "tuple"),none,(.seq [(.str (ofString "text") 2425),(.str (ofString "stream") 2426)].toArray 0),[].toArray⟩
noncomputable def o211 (P:Params):Obj:=⟨(.type "tuple"),none,(.seq [(.str (ofString "signs") 2427)].toArray 0),[].toArray⟩
noncomputable def o213 (P:Params):Obj:=⟨(.type "code"),none,(.fields [(.str (ofString "_law_lexer") 2422),(.str (ofString "_law_lexer") 2423),(.str (ofString "/claim/cut.py") 2424),(.int (164) 0),(.int (1) 0),(.int (0) 0),(.int (0) 0),(.int (3) 0),(.ref 208),(.bool true),(.int (181) 0),(.ref 209),.none,(.ref 210),(.ref 211),(.ref 212),(.int (2428) 0),(.int (164) 0),(.str (ofString "/claim/cut.py") 2429)].toArray),[].toArray⟩
noncomputable def o214 (P:Params):Obj:=⟨(.type "function"),none,(.func { name:=(ofString "_law_lexer"),qualname:=(ofString "_law_lexer"),params:=f17_args,body:=.stmts f17_body,scope:=f17_scope,globals:=3,closure:=[],defaults:=.none,kwdefaults:=.none,doc:=.none,pyModule:=(.str (ofString "law_uc0057_02") 2420),annotations:=none,code:=(.ref 213),closureTuple:=.none,builtins:=0 }),[].toArray⟩
noncomputable def o215 (P:Params):Obj:=⟨(.type "tuple"),none,(.seq [].toArray 0),[].toArray⟩
noncomputable def o217 (P:Params):Obj:=⟨(.type "tuple"),none,(.seq [(.str (ofString "text") 2434),(.str (ofString "rest") 2435),(.str (ofString "typed") 2436),(.str (ofString "price") 2437),(.str (ofString "piece") 2438),(.str (ofString "form") 2439),(.str (ofString "base") 2440)].toArray 0),[].toArray⟩
noncomputable def o218 (P:Params):Obj:=⟨(.type "tuple"),none,(.seq [].toArray 0),[].toArray⟩
noncomputable def o220 (P:Params):Obj:=⟨(.type "code"),none,(.fields [(.str (ofString "_law_typed") 2431),(.str (ofString "_law_typed") 2432),(.str (ofString "/claim/cut.py") 2433),(.int (169) 0),(.int (2) 0),(.int (0) 0),(.int (0) 0),(.int (3) 0),(.ref 215),(.bool true),(.int (181) 0),(.ref 216),.none,(.ref 217),(.ref 218),(.ref 219),(.int (2441) 0),(.int (169) 0),(.str (ofString "/claim/cut.py") 2442)].toArray),[].toArray⟩
noncomputable def o221 (P:Params):Obj:=⟨(.type "function"),none,(.func { name:=(ofString "_law_typed"),qualname:=(ofString "_law_typed"),params:=f18_args,body:=.stmts f18_body,scope:=f18_scope,globals:=3,closure:=[],defaults:=.none,kwdefaults:=.none,doc:=.none,pyModule:=(.str (ofString "law_uc0057_02") 2420),annotations:=none,code:=(.ref 220),closureTuple:=.none,builtins:=0 }),[].toArray⟩
noncomputable def o222 (P:Params):Obj:=⟨(.type "tuple"),none,(.seq [].toArray 0),[].toArray⟩
noncomputable def o225 (P:Params):Obj:=⟨(.type "code"),none,(.fields [(.str (ofString "_law_spelled") 2444),(.str (ofString "_law_spelled") 2445),(.str (ofString "/claim/cut.py") 2446),(.int (184) 0),(.int (3) 0),(.int (0) 0),(.int (0) 0),(.int (3) 0),(.ref 222),(.bool true),(.int (181) 0),(.ref 223),.none,.none,.none,(.ref 224),(.int (2447) 0),(.int (184) 0),(.str (ofString "/claim/cut.py") 2448)].toArray),[].toArray⟩
noncomputable def o226 (P:Params):Obj:=⟨(.type "function"),none,(.func { name:=(ofString "_law_spelled"),qualname:=(ofString "_law_spelled"),params:=f19_args,body:=.stmts f19_body,scope:=f19_scope,globals:=3,closure:=[],defaults:=.none,kwdefaults:=.none,doc:=.none,pyModule:=(.str (ofString "law_uc0057_02") 2420),annotations:=none,code:=(.ref 225),closureTuple:=.none,builtins:=0 }),[].toArray⟩
noncomputable def o227 (P:Params):Obj:=⟨(.type "tuple"),none,(.seq [].toArray 0),[].toArray⟩
noncomputable def o229 (P:Params):Obj:=⟨(.type "tuple"),none,(.seq [(.str (ofString "lead") 2453),(.str (ofString "size") 2454),(.str (ofString "column") 2455),(.str (ofString "sign") 2456)].toArray 0),[].toArray⟩
noncomputable def o230 (P:Params):Obj:=⟨(.type "tuple"),none,(.seq [].toArray 0),[].toArray⟩
noncomputable def o232 (P:Params):Obj:=⟨(.type "code"),none,(.fields [(.str (ofString "_law_column") 2450),(.str (ofString "_law_column") 2451),(.str (ofString "/claim/cut.py") 2452),(.int (190) 0),(.int (2) 0),(.int (0) 0),(.int (0) 0),(.int (3) 0),(.ref 227),(.bool true),(.int (181) 0),(.ref 228),.none,(.ref 229),(.ref 230),(.ref 231),(.int (2457) 0),(.int (190) 0),(.str (ofString "/claim/cut.py") 2458)].toArray),[].toArray⟩
noncomputable def o233 (P:Params):Obj:=⟨(.type "function"),none,(.func { name:=(ofString "_law_column"),qualname:=(ofString "_law_column"),params:=f20_args,body:=.stmts f20_body,scope:=f20_scope,globals:=3,closure:=[],defaults:=.none,kwdefaults:=.none,doc:=.none,pyModule:=(.str (ofString "law_uc0057_02") 2420),annotations:=none,code:=(.ref 232),closureTuple:=.none,builtins:=0 }),[].toArray⟩
noncomputable def o234 (P:Params):Obj:=⟨(.type "tuple"),none,(.seq [].toArray 0),[].toArray⟩
noncomputable def o237 (P:Params):Obj:=⟨(.type "code"),none,(.fields [(.str (ofString "_law_page") 2460),(.str (ofString "_law_page") 2461),(.str (ofString "/claim/cut.py") 2462),(.int (195) 0),(.int (2) 0),(.int (0) 0),(.int (0) 0),(.int (3) 0),(.ref 234),(.bool true),(.int (181) 0),(.ref 235),.none,.none,.none,(.ref 236),(.int (2463) 0),(.int (195) 0),(.str (ofString "/claim/cut.py") 2464)].toArray),[].toArray⟩
noncomputable def o238 (P:Params):Obj:=⟨(.type "function"),none,(.func { name:=(ofString "_law_page"),qualname:=(ofString "_law_page"),params:=f21_args,body:=.stmts f21_body,scope:=f21_scope,globals:=3,closure:=[],defaults:=.none,kwdefaults:=.none,doc:=.none,pyModule:=(.str (ofString "law_uc0057_02") 2420),annotations:=none,code:=(.ref 237),closureTuple:=.none,builtins:=0 }),[].toArray⟩
noncomputable def o239 (P:Params):Obj:=⟨(.type "tuple"),none,(.seq [].toArray 0),[].toArray⟩
noncomputable def o242 (P:Params):Obj:=⟨(.type "code"),none,(.fields [(.str (ofString "law") 2466),(.str (ofString "law") 2467),(.str (ofString "/claim/cut.py") 2468),(.int (206) 0),(.int (1) 0),(.int (0) 0),(.int (0) 0),(.int (3) 0),(.ref 239),(.bool true),(.int (181) 0),(.ref 240),.none,.none,.none,(.ref 241),(.int (2469) 0),(.int (206) 0),(.str (ofString "/claim/cut.py") 2470)].toArray),[].toArray⟩
noncomputable def o243 (P:Params):Obj:=⟨(.type "function"),none,(.func { name:=(ofString "law"),qualname:=(ofString "law"),params:=f22_args,body:=.stmts f22_body,scope:=f22_scope,globals:=3,closure:=[],defaults:=.none,kwdefaults:=.none,doc:=.none,pyModule:=(.str (ofString "law_uc0057_02") 2420),annotations:=none,code:=(.ref 242),closureTuple:=.none,builtins:=0 }),[].toArray⟩
noncomputable def o2 (_:Params):Obj:=⟨.none,none,(.dict [].toArray 0),[].toArray⟩
noncomputable def K:Params->Frag:=fun P=>(nat_lit 2,o2 P)::
 (nat_lit 3,o3 P)::
 (nat_lit 4,o4 P)::
 (nat_lit 5,o5 P)::
 (nat_lit 6,o6 P)::
 (nat_lit 7,o7 P)::
 (nat_lit 9,o9 P)::
 (nat_lit 10,o10 P)::
 (nat_lit 11,o11 P)::
 (nat_lit 13,o13 P)::
 (nat_lit 14,o14 P)::
 (nat_lit 15,o15 P)::
 (nat_lit 17,o17 P)::
 (nat_lit 18,o18 P)::
 (nat_lit 20,o20 P)::
 (nat_lit 21,o21 P)::
 (nat_lit 22,o22 P)::
 (nat_lit 23,o23 P)::
 (nat_lit 24,o24 P)::
 (nat_lit 25,o25 P)::
 (nat_lit 27,o27 P)::
 (nat_lit 28,o28 P)::
 (nat_lit 29,o29 P)::
 (nat_lit 30,o30 P)::
 (nat_lit 31,o31 P)::
 (nat_lit 32,o32 P)::
 (nat_lit 34,o34 P)::
 (nat_lit 35,o35 P)::
 (nat_lit 37,o37 P)::
 (nat_lit 38,o38 P)::
 (nat_lit 39,o39 P)::
 (nat_lit 41,o41 P)::
 (nat_lit 42,o42 P)::
 (nat_lit 44,o44 P)::
 (nat_lit 45,o45 P)::
 (nat_lit 46,o46 P)::
 (nat_lit 48,o48 P)::
 (nat_lit 49,o49 P)::
 (nat_lit 51,o51 P)::
 (nat_lit 52,o52 P)::
 (nat_lit 53,o53 P)::
 (nat_lit 55,o55 P)::
 (nat_lit 56,o56 P)::
 (nat_lit 58,o58 P)::
 (nat_lit 59,o59 P)::
 (nat_lit 60,o60 P)::
 (nat_lit 62,o62 P)::
 (nat_lit 63,o63 P)::
 (nat_lit 65,o65 P)::
 (nat_lit 66,o66 P)::
 (nat_lit 67,o67 P)::
 (nat_lit 69,o69 P)::
 (nat_lit 70,o70 P)::
 (nat_lit 72,o72 P)::
 (nat_lit 73,o73 P)::
 (nat_lit 74,o74 P)::
 (nat_lit 76,o76 P)::
 (nat_lit 77,o77 P)::
 (nat_lit 79,o79 P)::
 (nat_lit 80,o80 P)::
 (nat_lit 81,o81 P)::
 (nat_lit 82,o82 P)::
 (nat_lit 83,o83 P)::
 (nat_lit 84,o84 P)::
 (nat_lit 85,o85 P)::
 (nat_lit 86,o86 P)::
 (nat_lit 87,o87 P)::
 (nat_lit 88,o88 P)::
 (nat_lit 89,o89 P)::
 (nat_lit 90,o90 P)::
 (nat_lit 91,o91 P)::
 (nat_lit 93,o93 P)::
 (nat_lit 94,o94 P)::
 (nat_lit 95,o95 P)::
 (nat_lit 97,o97 P)::
 (nat_lit 98,o98 P)::
 (nat_lit 100,o100 P)::
 (nat_lit 101,o101 P)::
 (nat_lit 102,o102 P)::
 (nat_lit 104,o104 P)::
 (nat_lit 105,o105 P)::
 (nat_lit 107,o107 P)::
 (nat_lit 108,o108 P)::
 (nat_lit 109,o109 P)::
 (nat_lit 111,o111 P)::
 (nat_lit 112,o112 P)::
 (nat_lit 114,o114 P)::
 (nat_lit 115,o115 P)::
 (nat_lit 116,o116 P)::
 (nat_lit 118,o118 P)::
 (nat_lit 119,o119 P)::
 (nat_lit 121,o121 P)::
 (nat_lit 122,o122 P)::
 (nat_lit 123,o123 P)::
 (nat_lit 124,o124 P)::
 (nat_lit 125,o125 P)::
 (nat_lit 126,o126 P)::
 (nat_lit 127,o127 P)::
 (nat_lit 128,o128 P)::
 (nat_lit 129,o129 P)::
 (nat_lit 130,o130 P)::
 (nat_lit 131,o131 P)::
 (nat_lit 132,o132 P)::
 (nat_lit 133,o133 P)::
 (nat_lit 134,o134 P)::
 (nat_lit 135,o135 P)::
 (nat_lit 136,o136 P)::
 (nat_lit 137,o137 P)::
 (nat_lit 138,o138 P)::
 (nat_lit 139,o139 P)::
 (nat_lit 140,o140 P)::
 (nat_lit 141,o141 P)::
 (nat_lit 143,o143 P)::
 (nat_lit 144,o144 P)::
 (nat_lit 146,o146 P)::
 (nat_lit 147,o147 P)::
 (nat_lit 148,o148 P)::
 (nat_lit 187,o187 P)::
 (nat_lit 189,o189 P)::
 (nat_lit 190,o190 P)::
 (nat_lit 192,o192 P)::
 (nat_lit 193,o193 P)::
 (nat_lit 194,o194 P)::
 (nat_lit 196,o196 P)::
 (nat_lit 197,o197 P)::
 (nat_lit 199,o199 P)::
 (nat_lit 200,o200 P)::
 (nat_lit 201,o201 P)::
 (nat_lit 203,o203 P)::
 (nat_lit 204,o204 P)::
 (nat_lit 206,o206 P)::
 (nat_lit 207,o207 P)::
 (nat_lit 208,o208 P)::
 (nat_lit 210,o210 P)::
 (nat_lit 211,o211 P)::
 (nat_lit 213,o213 P)::
 (nat_lit 214,o214 P)::
 (nat_lit 215,o215 P)::
 (nat_lit 217,o217 P)::
 (nat_lit 218,o218 P)::
 (nat_lit 220,o220 P)::
 (nat_lit 221,o221 P)::
 (nat_lit 222,o222 P)::
 (nat_lit 225,o225 P)::
 (nat_lit 226,o226 P)::
 (nat_lit 227,o227 P)::
 (nat_lit 229,o229 P)::
 (nat_lit 230,o230 P)::
 (nat_lit 232,o232 P)::
 (nat_lit 233,o233 P)::
 (nat_lit 234,o234 P)::
 (nat_lit 237,o237 P)::
 (nat_lit 238,o238 P)::
 (nat_lit 239,o239 P)::
 (nat_lit 242,o242 P)::
 (nat_lit 243,o243 P)::[]
noncomputable def Kas:List Addr:=[2,3,4,5,6,7,9,10,11,13,14,15,17,18,20,21,22,23,24,25,27,28,29,30,31,32,34,35,37,38,39,41,42,44,45,46,48,49,51,52,53,55,56,58,59,60,62,63,65,66,67,69,70,72,73,74,76,77,79,80,81,82,83,84,85,86,87,88,89,90,91,93,94,95,97,98,100,101,102,104,105,107,108,109,111,112,114,115,116,118,119,121,122,123,124,125,126,127,128,129,130,131,132,133,134,135,136,137,138,139,140,141,143,144,146,147,148,187,189,190,192,193,194,196,197,199,200,201,203,204,206,207,208,210,211,213,214,215,217,218,220,221,222,225,226,227,229,230,232,233,234,237,238,239,242,243]
end Uc
section
namespace Uc
theorem lt2 {P:Nat->Prop}{k:Nat}(h:k<2)(h0:P 0)(h1:P 1):P k:=by
 cases k with
 |zero=>exact h0
 |succ k=>exact Nat.lt_one_iff.mp (Nat.lt_of_succ_lt_succ h)▸h1
theorem lt3 {P:Nat->Prop}{k:Nat}(h:k<3)(h0:P 0)(h1:P 1)(h2:P 2):P k:=by
 cases k with
 |zero=>exact h0
 |succ k=>exact lt2 (P:=fun k=>P (k+1)) (Nat.lt_of_succ_lt_succ h) h1 h2
theorem lt4 {P:Nat->Prop}{k:Nat}(h:k<4)(h0:P 0)(h1:P 1)(h2:P 2)(h3:P 3):P k:=by
 cases k with
 |zero=>exact h0
 |succ k=>exact lt3 (P:=fun k=>P (k+1)) (Nat.lt_of_succ_lt_succ h) h1 h2 h3
theorem ex1 {α0:Type}{P:α0->Prop}{G:Prop}(h:∃a0,P a0)(f:∀a0,P a0->G):G:=h.elim f
theorem ex2 {α0 α1:Type}{P:α0->α1->Prop}{G:Prop}(h:∃a0 a1,P a0 a1)(f:∀a0 a1,P a0 a1->G):G:=h.elim fun a0 h=>ex1 h (f a0)
theorem ex3 {α0 α1 α2:Type}{P:α0->α1->α2->Prop}{G:Prop}(h:∃a0 a1 a2,P a0 a1 a2)(f:∀a0 a1 a2,P a0 a1 a2->G):G:=h.elim fun a0 h=>ex2 h (f a0)
theorem ex4 {α0 α1 α2 α3:Type}{P:α0->α1->α2->α3->Prop}{G:Prop}(h:∃a0 a1 a2 a3,P a0 a1 a2 a3)(f:∀a0 a1 a2 a3,P a0 a1 a2 a3->G):G:=h.elim fun a0 h=>ex3 h (f a0)
theorem ex5 {α0 α1 α2 α3 α4:Type}{P:α0->α1->α2->α3->α4->Prop}{G:Prop}(h:∃a0 a1 a2 a3 a4,P a0 a1 a2 a3 a4)(f:∀a0 a1 a2 a3 a4,P a0 a1 a2 a3 a4->G):G:=h.elim fun a0 h=>ex4 h (f a0)
theorem ex6 {α0 α1 α2 α3 α4 α5:Type}{P:α0->α1->α2->α3->α4->α5->Prop}{G:Prop}(h:∃a0 a1 a2 a3 a4 a5,P a0 a1 a2 a3 a4 a5)(f:∀a0 a1 a2 a3 a4 a5,P a0 a1 a2 a3 a4 a5->G):G:=h.elim fun a0 h=>ex5 h (f a0)
theorem ex7 {α0 α1 α2 α3 α4 α5 α6:Type}{P:α0->α1->α2->α3->α4->α5->α6->Prop}{G:Prop}(h:∃a0 a1 a2 a3 a4 a5 a6,P a0 a1 a2 a3 a4 a5 a6)(f:∀a0 a1 a2 a3 a4 a5 a6,P a0 a1 a2 a3 a4 a5 a6->G):G:=h.elim fun a0 h=>ex6 h (f a0)
theorem ex8 {α0 α1 α2 α3 α4 α5 α6 α7:Type}{P:α0->α1->α2->α3->α4->α5->α6->α7->Prop}{G:Prop}(h:∃a0 a1 a2 a3 a4 a5 a6 a7,P a0 a1 a2 a3 a4 a5 a6 a7)(f:∀a0 a1 a2 a3 a4 a5 a6 a7,P a0 a1 a2 a3 a4 a5 a6 a7->G):G:=h.elim fun a0 h=>ex7 h (f a0)
theorem ex9 {α0 α1 α2 α3 α4 α5 α6 α7 α8:Type}{P:α0->α1->α2->α3->α4->α5->α6->α7->α8->Prop}{G:Prop}(h:∃a0 a1 a2 a3 a4 a5 a6 a7 a8,P a0 a1 a2 a3 a4 a5 a6 a7 a8)(f:∀a0 a1 a2 a3 a4 a5 a6 a7 a8,P a0 a1 a2 a3 a4 a5 a6 a7 a8->G):G:=h.elim fun a0 h=>ex8 h (f a0)
theorem xe4 {α0 α1 α2 α3:Type}{P:α0->α1->α2->α3->Prop}{G:Prop}(f:∀a0 a1 a2 a3,P a0 a1 a2 a3->G)(h:∃a0 a1 a2 a3,P a0 a1 a2 a3):G:=ex4 h f
theorem ei4 {α0 α1 α2 α3:Type}{P:α0->α1->α2->α3->Prop}(a0:α0)( a1:α1)( a2:α2)( a3:α3)(h:P a0 a1 a2 a3):∃a0 a1 a2 a3,P a0 a1 a2 a3:=⟨a0,a1,a2,a3,h⟩
theorem ei5 {α0 α1 α2 α3 α4:Type}{P:α0->α1->α2->α3->α4->Prop}(a0:α0)( a1:α1)( a2:α2)( a3:α3)( a4:α4)(h:P a0 a1 a2 a3 a4):∃a0 a1 a2 a3 a4,P a0 a1 a2 a3 a4:=⟨a0,a1,a2,a3,a4,h⟩
theorem ei6 {α0 α1 α2 α3 α4 α5:Type}{P:α0->α1->α2->α3->α4->α5->Prop}(a0:α0)( a1:α1)( a2:α2)( a3:α3)( a4:α4)( a5:α5)(h:P a0 a1 a2 a3 a4 a5):∃a0 a1 a2 a3 a4 a5,P a0 a1 a2 a3 a4 a5:=⟨a0,a1,a2,a3,a4,a5,h⟩
theorem ei7 {α0 α1 α2 α3 α4 α5 α6:Type}{P:α0->α1->α2->α3->α4->α5->α6->Prop}(a0:α0)( a1:α1)( a2:α2)( a3:α3)( a4:α4)( a5:α5)( a6:α6)(h:P a0 a1 a2 a3 a4 a5 a6):∃a0 a1 a2 a3 a4 a5 a6,P a0 a1 a2 a3 a4 a5 a6:=⟨a0,a1,a2,a3,a4,a5,a6,h⟩
theorem ei8 {α0 α1 α2 α3 α4 α5 α6 α7:Type}{P:α0->α1->α2->α3->α4->α5->α6->α7->Prop}(a0:α0)( a1:α1)( a2:α2)( a3:α3)( a4:α4)( a5:α5)( a6:α6)( a7:α7)(h:P a0 a1 a2 a3 a4 a5 a6 a7):∃a0 a1 a2 a3 a4 a5 a6 a7,P a0 a1 a2 a3 a4 a5 a6 a7:=⟨a0,a1,a2,a3,a4,a5,a6,a7,h⟩
theorem ei9 {α0 α1 α2 α3 α4 α5 α6 α7 α8:Type}{P:α0->α1->α2->α3->α4->α5->α6->α7->α8->Prop}(a0:α0)(a1:α1)(a2:α2)(a3:α3)(a4:α4)(a5:α5)(a6:α6)(a7:α7)(a8:α8)(h:P a0 a1 a2 a3 a4 a5 a6 a7 a8):∃a0 a1 a2 a3 a4 a5 a6 a7 a8,P a0 a1 a2 a3 a4 a5 a6 a7 a8:=⟨a0,a1,a2,a3,a4,a5,a6,a7,a8,h⟩
theorem ei13 {α0 α1 α2 α3 α4 α5 α6 α7 α8 α9 α10 α11 α12:Type}{P:α0->α1->α2->α3->α4->α5->α6->α7->α8->α9->α10->α11->α12->Prop}(a0:α0)( a1:α1)( a2:α2)( a3:α3)( a4:α4)( a5:α5)( a6:α6)( a7:α7)( a8:α8)( a9:α9)( a10:α10)( a11:α11)( a12:α12)(h:P a0 a1 a2 a3 a4 a5 a6 a7 a8 a9 a10 a11 a12):∃a0 a1 a2 a3 a4 a5 a6 a7 a8 a9 a10 a11 a12,P a0 a1 a2 a3 a4 a5 a6 a7 a8 a9 a10 a11 a12:=⟨a0,a1,a2,a3,a4,a5,a6,a7,a8,a9,a10,a11,a12,h⟩
theorem sub_s2 (n j:Nat):n-1-j=n-(j+1):=Nat.sub_right_comm n 1 j
theorem sub_s3 {n j:Nat}(h:j<n):n-(j+1)<n:=Nat.sub_lt (Nat.lt_of_le_of_lt (Nat.zero_le j) h) (Nat.succ_pos j)
theorem an2 {p0 p1 G:Prop}(f:p0->p1->G)(h:p0/\p1):G:=f h.1 h.2
theorem ah2 {p0 p1 G:Prop}(h:p0/\p1)(f:p0->p1->G):G:=an2 f h
theorem an3 {p0 p1 p2 G:Prop}(f:p0->p1->p2->G)(h:p0/\p1/\p2):G:=an2 (f h.1) h.2
theorem ah3 {p0 p1 p2 G:Prop}(h:p0/\p1/\p2)(f:p0->p1->p2->G):G:=an3 f h
theorem an4 {p0 p1 p2 p3 G:Prop}(f:p0->p1->p2->p3->G)(h:p0/\p1/\p2/\p3):G:=an3 (f h.1) h.2
theorem ah4 {p0 p1 p2 p3 G:Prop}(h:p0/\p1/\p2/\p3)(f:p0->p1->p2->p3->G):G:=an4 f h
theorem an5 {p0 p1 p2 p3 p4 G:Prop}(f:p0->p1->p2->p3->p4->G)(h:p0/\p1/\p2/\p3/\p4):G:=an4 (f h.1) h.2
theorem ah5 {p0 p1 p2 p3 p4 G:Prop}(h:p0/\p1/\p2/\p3/\p4)(f:p0->p1->p2->p3->p4->G):G:=an5 f h
theorem an6 {p0 p1 p2 p3 p4 p5 G:Prop}(f:p0->p1->p2->p3->p4->p5->G)(h:p0/\p1/\p2/\p3/\p4/\p5):G:=an5 (f h.1) h.2
theorem an7 {p0 p1 p2 p3 p4 p5 p6 G:Prop}(f:p0->p1->p2->p3->p4->p5->p6->G)(h:p0/\p1/\p2/\p3/\p4/\p5/\p6):G:=an6 (f h.1) h.2
theorem an8 {p0 p1 p2 p3 p4 p5 p6 p7 G:Prop}(f:p0->p1->p2->p3->p4->p5->p6->p7->G)(h:p0/\p1/\p2/\p3/\p4/\p5/\p6/\p7):G:=an7 (f h.1) h.2
theorem an9 {p0 p1 p2 p3 p4 p5 p6 p7 p8 G:Prop}(f:p0->p1->p2->p3->p4->p5->p6->p7->p8->G)(h:p0/\p1/\p2/\p3/\p4/\p5/\p6/\p7/\p8):G:=an8 (f h.1) h.2
theorem an10 {p0 p1 p2 p3 p4 p5 p6 p7 p8 p9 G:Prop}(f:p0->p1->p2->p3->p4->p5->p6->p7->p8->p9->G)(h:p0/\p1/\p2/\p3/\p4/\p5/\p6/\p7/\p8/\p9):G:=an9 (f h.1) h.2
theorem an11 {p0 p1 p2 p3 p4 p5 p6 p7 p8 p9 p10 G:Prop}(f:p0->p1->p2->p3->p4->p5->p6->p7->p8->p9->p10->G)(h:p0/\p1/\p2/\p3/\p4/\p5/\p6/\p7/\p8/\p9/\p10):G:=an10 (f h.1) h.2
theorem an12 {p0 p1 p2 p3 p4 p5 p6 p7 p8 p9 p10 p11 G:Prop}(f:p0->p1->p2->p3->p4->p5->p6->p7->p8->p9->p10->p11->G)(h:p0/\p1/\p2/\p3/\p4/\p5/\p6/\p7/\p8/\p9/\p10/\p11):G:=an11 (f h.1) h.2
theorem an13 {p0 p1 p2 p3 p4 p5 p6 p7 p8 p9 p10 p11 p12 G:Prop}(f:p0->p1->p2->p3->p4->p5->p6->p7->p8->p9->p10->p11->p12->G)(h:p0/\p1/\p2/\p3/\p4/\p5/\p6/\p7/\p8/\p9/\p10/\p11/\p12):G:=an12 (f h.1) h.2
theorem allB {α:Type}{P:α->Prop}{a:α}{l:List α}(h1:P a)(h2:∀r∈l,P r):∀r∈a::l,P r:=List.forall_mem_cons.mpr ⟨h1,h2⟩
theorem ledgR {α:Type}{l:List α}:∀p∈l,p∈l:=fun _ h=>h
theorem ledgD {α:Type}{a:α}{l l':List α}(h:∀p∈l,p∈l'):∀p∈l,p∈a::l':=fun p m=>.tail _ (h p m)
theorem slF (x:Str)(k:Nat):Txt.slice x (some (k:Int)) none=⟨(x.cps.toList.drop k).toArray⟩:=by
 by_cases h:k<=x.length
 ·rw[slice_from_eq (b:=(x.length:Int)) (by omega) (by omega) rfl]
  have e:x.cps.toList.length=x.length:=rfl
  rw[Int.toNat_natCast k,List.take_of_length_le (by rw[List.length_drop,Int.toNat_sub];exact Nat.le_refl _)]
 ·rw[slice_beyond (by omega)]
  have e:x.cps.toList.length=x.length:=rfl
  rw[List.drop_of_length_le (Nat.le_of_lt (Nat.lt_of_not_le h))]
  rfl
set_option tactic.hygienic true in
theorem slN (x:Str):Txt.slice x none none=x:=by
 unfold Txt.slice
 split
 ·rfl
 ·rename_i h
  refine absurd ?_ h
  simp[Builtin.Str.strSliceIndices,sliceRange]
  split<;>omega
theorem slT (x:Str)(k:Nat):Txt.slice x none (some (k:Int))=⟨(x.cps.toList.take k).toArray⟩:=by
 have e:x.cps.toList.length=x.length:=rfl
 by_cases h:k<=x.length
 ·have:=beq_iff_eq.mp (slice_closes_to (x:=x) (j:=(k:Int)) (by omega))
  rw[this];simp
 ·have:Txt.slice x none (some (k:Int))=Txt.slice x none none:=by
   unfold Txt.slice Builtin.Str.strSliceIndices
   have h0:¬ ((k:Int)<0):=by omega
   have h1:min (k:Int) (x.length:Int)=x.length:=by omega
   have h2:max (0:Int) (x.length:Int)=x.length:=by omega
   simp only[h0,if_false,h1,h2,show(1:Int)>0 by decide,if_true]
  rw[this,slN,List.take_of_length_le (by omega)]
theorem slTn (x:Str)(k:Nat)(h0:0<k)(h:k<=x.length):Txt.slice x none (some (-(k:Int)))=⟨(x.cps.toList.take (x.length-k)).toArray⟩:=by
 have e:x.cps.toList.length=x.length:=rfl
 have:Txt.slice x none (some (-(k:Int)))=Txt.slice x none (some ((x.length-k:Nat):Int)):=by
  unfold Txt.slice Builtin.Str.strSliceIndices
  have h0:(-(k:Int)<0):=by omega
  have h1:¬ (((x.length-k:Nat):Int)<0):=by omega
  simp only[h0,h1,if_true,if_false,show(1:Int)>0 by decide]
  rw[show(-(k:Int)+(x.length:Int))=((x.length-k:Nat):Int) by omega]
 rw[this,slT]
theorem str_len (l:List Nat):(Str.length ⟨l.toArray⟩)=l.length:=by show l.toArray.size=_;simp
theorem item_nat (x:Str)(k:Nat)(h:k<x.length):Txt.item x (k:Int)=⟨#[x.cps.toList.getD k 0]⟩:=by
 rw[PySem.W.item_meets ⟨by omega,by omega⟩]
 have:k<x.cps.size:=h
 simp[Array.getD,this]
theorem item_neg (x:Str)(k:Nat)(h0:0<k)(h:k<=x.length):Txt.item x (-(k:Int))=⟨#[x.cps.toList.getD (x.length-k) 0]⟩:=by
 have e:Txt.item x (-(k:Int))=Txt.item x ((x.length-k:Nat):Int):=by
  have e1:seqIndex? (-(k:Int)) x.length=seqIndex? ((x.length-k:Nat):Int) x.length:=by
   have q1:(if -(k:Int)<0 then -(k:Int)+(x.length:Int) else -(k:Int))=((x.length-k:Nat):Int):=by rw[if_pos (by omega)];omega
   have q2:(if ((x.length-k:Nat):Int)<0 then((x.length-k:Nat):Int)+(x.length:Int) else((x.length-k:Nat):Int))=((x.length-k:Nat):Int):=if_neg (by omega)
   unfold seqIndex?
   simp only[q1,q2]
  unfold Txt.item Txt.charAt
  rw[e1]
 rw[e,item_nat _ _ (by omega)]
theorem item_rev (x:Str)(q:Nat)(h:q<x.length):Txt.item x (-(q:Int)-1)=⟨#[x.cps.toList.reverse.getD q 0]⟩:=by
 have e:x.cps.toList.length=x.length:=rfl
 rw[show(-(q:Int)-1)= -((q+1:Nat):Int) by omega,item_neg _ _ (Nat.succ_pos q) h]
 have h1:x.length-(q+1)<x.cps.toList.length:=sub_s3 h
 have h2:q<x.cps.toList.reverse.length:=by rw[List.length_reverse];exact h
 rw[List.getD_eq_getElem?_getD,List.getD_eq_getElem?_getD,List.getElem?_eq_getElem h1,List.getElem?_eq_getElem h2,Option.getD_some,Option.getD_some,List.getElem_reverse]
 have h3:x.cps.toList.length-1-q=x.length-(q+1):=sub_s2 _ _
 simp only[h3]
noncomputable def sPre:List Nat->List Nat->List Nat×List Nat
 |x::xs,y::ys=>if x=y then sPre xs ys else(x::xs,y::ys)
 |xs,ys=>(xs,ys)
theorem sPre_cons (x y:Nat)(xs ys:List Nat):sPre (x::xs) (y::ys)=if x=y then sPre xs ys else(x::xs,y::ys):=rfl
theorem sPre_nil_l (ys:List Nat):sPre [] ys=([],ys):=by cases ys<;>rfl
theorem sPre_nil_r (xs:List Nat):sPre xs []=(xs,[]):=by cases xs<;>rfl
theorem drop_getD {l:List Nat}{k:Nat}(h:k<l.length):l.drop k=l.getD k 0::l.drop (k+1):=by
 rw[List.drop_eq_getElem_cons h]
 simp[List.getD,h]
theorem sPre_step {x y:List Nat}{k:Nat}(hx:k<x.length)(hy:k<y.length)(e:x.getD k 0=y.getD k 0):sPre (x.drop (k+1)) (y.drop (k+1))=sPre (x.drop k) (y.drop k):=by
 rw[drop_getD hx,drop_getD hy,e,sPre_cons,if_pos rfl]
theorem sPre_stop {x y:List Nat}{k:Nat}(h:x.length<=k∨y.length<=k∨x.getD k 0≠y.getD k 0):sPre (x.drop k) (y.drop k)=(x.drop k,y.drop k):=by
 by_cases hx:x.length<=k
 ·rw[List.drop_of_length_le hx,sPre_nil_l]
 ·by_cases hy:y.length<=k
  ·rw[List.drop_of_length_le hy,sPre_nil_r]
  ·have hne:x.getD k 0≠y.getD k 0:=by rcases h with h|h|h<;>first|exact h|omega
   rw[drop_getD (by omega),drop_getD (by omega:k<y.length)]
   exact if_neg hne
theorem slF_len (x:Str)(k:Nat):(Txt.slice x (some (k:Int)) none).length=x.length-k:=by rw[slF,str_len,List.length_drop];rfl
theorem slQ (x:Str)(q:Nat)(h:q<=x.length):Txt.slice x none (if -(q:Int)=0 then none else some (-(q:Int)))=⟨(x.cps.toList.take (x.length-q)).toArray⟩:=by
 by_cases h0:q=0
 ·subst h0
  rw[if_pos (by decide),slN,Nat.sub_zero,List.take_of_length_le (show x.cps.toList.length<=x.length from Nat.le_refl _)]
 ·rw[if_neg (by omega),slTn x q (Nat.pos_of_ne_zero h0) h]
theorem slQ_len (x:Str)(q:Nat)(h:q<=x.length):(Txt.slice x none (if -(q:Int)=0 then none else some (-(q:Int)))).length=x.length-q:=by
 rw[slQ x q h,str_len,List.length_take]
 exact Nat.min_eq_left (Nat.sub_le _ _)
theorem sgl_eq {a b:Nat}:(⟨#[a]⟩:Str)=⟨#[b]⟩↔a=b:=by simp
end Uc
end
section
namespace Uc
noncomputable def subCost (a b:Str):Int:=if a=b then 0 else if Txt.lower a=Txt.lower b then 1 else 2
noncomputable def cst (c d:Nat):Int:=subCost ⟨#[c]⟩ ⟨#[d]⟩
noncomputable def BIG:Int:=9223372036854775807
noncomputable def inner (c:Nat):List Nat->List Int->Int->Int->Int->List Int×Int×Int
 |x::xs,r::rs,d,res,mn=>
  let res':=min (min res r+2) (d+cst c x)
  let t:=inner c xs rs r res' (if res'<mn then res' else mn)
  (res'::t.1,t.2)
 |_,rs,_,res,mn=>(rs,res,mn)
noncomputable def outer (xs:List Nat)(mx:Int):List Nat->Nat->List Int->Int->Int
 | [],_,_,res=>res
 |c::cs,bi,row,_=>
  let t:=inner c xs row ((bi:Int)*2) ((bi:Int)*2) BIG
  if mx<t.2.2 then mx+1 else outer xs mx cs (bi+1) t.1 t.2.1
noncomputable def row0 (n:Nat):List Int:=(List.range n).map fun(i:Nat)=>2+(i:Int)*2
noncomputable def lev3 (a b:List Nat)(mx:Int):Int:=
 if mx<((b.length:Int)-a.length)*2 then mx+1 else outer a mx b 0 (row0 a.length) 0
noncomputable def lev2 (a b:List Nat)(mx:Int):Int:=
 if a.length=0∨b.length=0 then 2*((a.length:Int)+b.length)
 else if 40<a.length∨40<b.length then mx+1
 else if b.length<a.length then lev3 b a mx else lev3 a b mx
noncomputable def levL (a b:List Nat)(mx:Int):Int:=
 if a=b then 0 else
 let p:=sPre a b
 let q:=sPre p.1.reverse p.2.reverse
 lev2 q.1.reverse q.2.reverse mx
noncomputable def levS (a b:Str)(mx:Int):Int:=levL a.cps.toList b.cps.toList mx
end Uc
end
section
namespace Uc
noncomputable def Hid {α:Type}(P Z:α->Shared->Prop):Prop:=∀a s,P a s->Z a s
theorem isW {M:Model}{A:Around}{Q:Flow->Shared->Prop}{E:Value->Shared->Prop}{s:Shared}{t:Expr}{b o:List Stmt}{p:Pos}{env:Env}(h:wpAny M A (exec (.While t b o p) env) Q E s):wpAny M A (exec (.While t b o p) env) Q E s:=h
theorem isI {M:Model}{A:Around}{Q:Value->Shared->Prop}{E:Value->Shared->Prop}{s:Shared}{v:Value}(h:wpAny M A (pyIter v) Q E s):wpAny M A (pyIter v) Q E s:=h
theorem Hid.go {α:Type}{P Z:α->Shared->Prop}{a:α}{s:Shared}(h:Hid P Z)(q:P a s):Z a s:=h a s q
theorem fpLLoooooRoooooR {α0 α1 α2 α3 α4 α5 α6 α7 α8 α9:Type}{P:((α0×α1×α2×α3×α4)×α5×α6×α7×α8×α9)->Prop}(h:∀a0 a1 a2 a3 a4 a5 a6 a7 a8 a9,P ((a0,a1,a2,a3,a4),a5,a6,a7,a8,a9)):∀c,P c:=fun c=>h c.1.1 c.1.2.1 c.1.2.2.1 c.1.2.2.2.1 c.1.2.2.2.2 c.2.1 c.2.2.1 c.2.2.2.1 c.2.2.2.2.1 c.2.2.2.2.2
theorem fpLLoooooRoooR {α0 α1 α2 α3 α4 α5 α6 α7:Type}{P:((α0×α1×α2×α3×α4)×α5×α6×α7)->Prop}(h:∀a0 a1 a2 a3 a4 a5 a6 a7,P ((a0,a1,a2,a3,a4),a5,a6,a7)):∀c,P c:=fun c=>h c.1.1 c.1.2.1 c.1.2.2.1 c.1.2.2.2.1 c.1.2.2.2.2 c.2.1 c.2.2.1 c.2.2.2
noncomputable abbrev Led:=List (Addr×Obj)
theorem fpLooR {α0 α1:Type}{P:(α0×α1)->Prop}(h:∀a0 a1,P (a0,a1)):∀c,P c:=fun c=>h c.1 c.2
theorem fpLLooooRooooR {α0 α1 α2 α3 α4 α5 α6 α7:Type}{P:((α0×α1×α2×α3)×α4×α5×α6×α7)->Prop}(h:∀a0 a1 a2 a3 a4 a5 a6 a7,P ((a0,a1,a2,a3),a4,a5,a6,a7)):∀c,P c:=fun c=>h c.1.1 c.1.2.1 c.1.2.2.1 c.1.2.2.2 c.2.1 c.2.2.1 c.2.2.2.1 c.2.2.2.2
theorem fpLLooooooRoooooooR {α0 α1 α2 α3 α4 α5 α6 α7 α8 α9 α10 α11 α12:Type}{P:((α0×α1×α2×α3×α4×α5)×α6×α7×α8×α9×α10×α11×α12)->Prop}(h:∀a0 a1 a2 a3 a4 a5 a6 a7 a8 a9 a10 a11 a12,P ((a0,a1,a2,a3,a4,a5),a6,a7,a8,a9,a10,a11,a12)):∀c,P c:=fun c=>h c.1.1 c.1.2.1 c.1.2.2.1 c.1.2.2.2.1 c.1.2.2.2.2.1 c.1.2.2.2.2.2 c.2.1 c.2.2.1 c.2.2.2.1 c.2.2.2.2.1 c.2.2.2.2.2.1 c.2.2.2.2.2.2.1 c.2.2.2.2.2.2.2
theorem fpLooooooooR {α0 α1 α2 α3 α4 α5 α6 α7:Type}{P:(α0×α1×α2×α3×α4×α5×α6×α7)->Prop}(h:∀a0 a1 a2 a3 a4 a5 a6 a7,P (a0,a1,a2,a3,a4,a5,a6,a7)):∀c,P c:=fun c=>h c.1 c.2.1 c.2.2.1 c.2.2.2.1 c.2.2.2.2.1 c.2.2.2.2.2.1 c.2.2.2.2.2.2.1 c.2.2.2.2.2.2.2
theorem fpLoooR {α0 α1 α2:Type}{P:(α0×α1×α2)->Prop}(h:∀a0 a1 a2,P (a0,a1,a2)):∀c,P c:=fun c=>h c.1 c.2.1 c.2.2
theorem kE2nv {A0 A1:Type}{V:A0->A1->Value}{X:A0->A1->Led}{C:Value->Led->Heap->Nat->Prop}(k:∀a0 a1 h tk,C (V a0 a1) (X a0 a1) h tk):∀v n h tk,(∃a0 a1,n=(X a0 a1)/\v=(V a0 a1))->C v n h tk:=by
 rintro v n h tk ⟨a0,a1,rfl,rfl⟩
 exact k a0 a1 h tk
theorem kE3nv {A0 A1 A2:Type}{V:A0->A1->A2->Value}{X:A0->A1->A2->Led}{C:Value->Led->Heap->Nat->Prop}(k:∀a0 a1 a2 h tk,C (V a0 a1 a2) (X a0 a1 a2) h tk):∀v n h tk,(∃a0 a1 a2,n=(X a0 a1 a2)/\v=(V a0 a1 a2))->C v n h tk:=by
 intro v n h tk w4q;(refine Uc.ex3 w4q fun a0 a1 a2=>Uc.an2 fun e1q e2q=>?_;clear w4q;subst e1q;subst e2q)
 exact k a0 a1 a2 h tk
theorem kE4pnv {A0 A1 A2 A3:Type}{V:A0->A1->A2->A3->Value}{X:A0->A1->A2->A3->Led}{P:A0->A1->A2->A3->Prop}{C:Value->Led->Heap->Nat->Prop}(k:∀a0 a1 a2 a3 h tk,(P a0 a1 a2 a3)->C (V a0 a1 a2 a3) (X a0 a1 a2 a3) h tk):∀v n h tk,(∃a0 a1 a2 a3,(P a0 a1 a2 a3)/\n=(X a0 a1 a2 a3)/\v=(V a0 a1 a2 a3))->C v n h tk:=by
 intro v n h tk w6q;(refine Uc.ex4 w6q fun a0 a1 a2 a3=>Uc.an3 fun hp e1q e2q=>?_;clear w6q;subst e1q;subst e2q)
 exact k a0 a1 a2 a3 h tk hp
end Uc
namespace Uc
noncomputable abbrev Pm:Program:=Challenge.rw_uc0057_02.prog
noncomputable abbrev Con (w:World)(p:Program)(loose:List Str)(mean:ExcName->Option Value)(mg mb:Str->Option Value)(f:Addr)(d u:Nat)(vs:List Value)(news:List (Addr×Obj))(pre:Heap->Prop)(R:Value->List (Addr×Obj)->Prop):Prop:=
 ∀(dp un:Nat) (gd:Option (List Code)) (cn:Str) (cs:Scope) (a:Addr) (ccd:Value) (cl:List (Str×Addr)) (outer:List Env) (A₀:Around) (base h₀:Heap) (L:Addr) (m:Str->Option Value) (s:Shared) (Q E:Value->Shared->Prop),
  Below A₀ base outer h₀->Fr h₀ L s.heap m->(K w.params).In h₀->News h₀ L s.heap news->Top p loose mean mg mb h₀->cs.kind=.function->pre base->dp+d<recursionLimit->un+u<cLine->
  (∀v news' h' tk',R v news'->Fr h₀ L h' m->News h₀ L h' news'->Q v { s with heap:=h',toks:=tk' })->
  wpAny (model Pm w) (ktrTop dp un gd cn cs L a ccd cl outer) (call (.ref f) vs) Q E s
noncomputable abbrev Nms:=List (Str×Value)
noncomputable def fm (u:Str->Option Value):Nms->Str->Option Value
 | []=>u
 |p::r=>fun z=>if z=p.1 then some p.2 else fm u r z
noncomputable def Has (m:Str->Option Value):Nms->Prop
 | []=>True
 |p::r=>m p.1=some p.2/\Has m r
theorem allLt_all {d:Addr}:∀{l:Led},AllLt d l->∀p∈l,p.1<d
 | [],_,p,h=>absurd h List.not_mem_nil
 |q::l,h,p,hp=>by
  rcases List.mem_cons.mp hp with rfl|hp
  ·exact h.1
  ·exact allLt_all h.2 p hp
theorem News.cutLt {h₀ h:Heap}{L d:Addr}{o:Obj}{r:Led}(N:News h₀ L h ((d,o)::r))(a:AllLt d r):∃R,R=r/\News h₀ L h ((d,o)::R)/\∀q∈R,q.1≠d:=⟨r,rfl,N,fun q hq=>Nat.ne_of_lt (allLt_all a q hq)⟩
theorem fm_eq {m:Str->Option Value}:∀{l:Nms},Has m l->fm m l=m
 | [],_=>rfl
 |p::r,h=>by
  funext z
  show(if z=p.1 then some p.2 else fm m r z)=m z
  by_cases q:z=p.1
  ·rw[if_pos q,q];exact h.1.symm
  ·rw[if_neg q,fm_eq h.2]
theorem News.sub {h₀ h:Heap}{L:Addr}{a b:Led}(N:News h₀ L h a)(hs:∀p∈b,p∈a):News h₀ L h b:=fun p hp=>N p (hs p hp)
theorem rsize2 {n:Nat}{x:Int}(h:x=2*((n:Int)+1)):Builtin.Range.rangeSize 2 x 2=(n:Int):=by
 subst h
 unfold Builtin.Range.rangeSize
 rw[if_pos (by decide)]
 split<;>omega
theorem rsize1 {n:Nat}{x:Int}(h:x=(n:Int)):Builtin.Range.rangeSize 0 x 1=(n:Int):=by
 subst h
 unfold Builtin.Range.rangeSize
 rw[if_pos (by decide)]
 split<;>omega
theorem rsmall {a b c:Int}(h1:0<=a)(h2:a<=1000000)(h3: -1000000<=b)(h4:b<=1000000)(h5:1<=c)(h6:c<=1000):Builtin.Range.small a b c=true:=by
 have hn:0<=Builtin.Range.rangeSize a b c/\Builtin.Range.rangeSize a b c<=2000000:=by
  unfold Builtin.Range.rangeSize
  rw[if_pos (by omega)]
  split
  ·have h0:0<=(b-a-1) / c:=Int.ediv_nonneg (by omega) (by omega)
   have h1:(b-a-1) / c<=b-a-1:=Int.ediv_le_self _ (by omega)
   omega
  ·omega
 have fit:∀i:Int, -10000000<=i->i<=10000000->Builtin.Range.rangeFitsLong i=true:=fun i p q=>by
  unfold Builtin.Range.rangeFitsLong
  simp only[Bool.and_eq_true,decide_eq_true_eq]
  omega
 unfold Builtin.Range.small
 rw[fit a (by omega) (by omega),fit b (by omega) (by omega),fit c (by omega) (by omega),fit _ (by omega) (by omega),if_pos (by omega),fit _ (by omega) (by omega)]
 simp
section
variable {prog:Program}{w:World}{A:Around}{E:Value->Shared->Prop}{Q:Flow->Shared->Prop}{s:Shared}{env:Env}{h₀:Heap}{x:Str}{body:List Stmt}
noncomputable def Got (h₀:Heap)(L:Addr){σ:Type}(led:σ->Led)(ps:σ->Nms)(P:σ->Prop)(s s':Shared):Prop:=
 ∃c' m' h' tk',s'={ s with heap:=h',toks:=tk' }/\Fr h₀ L h' m'/\News h₀ L h' (led c')/\Has m' (ps c')/\P c'
theorem Got.mk {h₀ h':Heap}{L:Addr}{σ:Type}{led:σ->Led}{ps:σ->Nms}{P:σ->Prop}{s:Shared}{m':Str->Option Value}{news':Led}{tk':Nat}(c':σ)
  (F:Fr h₀ L h' m') (N:News h₀ L h' news') (hs:∀p∈led c',p∈news') (hk:Has m' (ps c')) (hp:P c'):Got h₀ L led ps P s { s with heap:=h',toks:=tk' }:=Uc.ei4 c' m' h' tk' ⟨rfl,F,News.sub N hs,hk,hp⟩
theorem for_c {σ:Type}{I:Addr}{fp wr:List Addr}{n:Nat}{P:Nat->Value->Prop}{St:Nat->Heap->Prop}{m₀:Str->Option Value}(led:σ->Led)(ps:σ->Nms)(R:Nat->σ->Prop)(c₀:σ)
  (W:Walks prog w A I fp wr n P St) (hLf:env.locals ∉ fp) (hwr:∀b∈wr,h₀.get? b=none) (hst:St 0 s.heap)
  (F:Fr h₀ env.locals s.heap m₀) (N:News h₀ env.locals s.heap (led c₀)) (hnw:∀p∈led c₀,p.1 ∉ wr) (hk:Has m₀ (ps c₀)) (hp:R 0 c₀)
  (turn:∀i v (c:σ) (u:Str->Option Value) h tk own,i<n->P i v->R i c->(∀p∈led c,p.1 ∉ wr)->
   (∀b∈wr,∀o,h.get? b=some o->(b,o)∈own)->(∀p∈own,p.1∈fp/\h.get? p.1=some p.2)->St (i+1) h->Fr h₀ env.locals h (fun y=>if y=x then some v else fm u (ps c) y)->News h₀ env.locals h (led c++own)->
   wpAny (model prog w) A (execs body env) (fun f s'=>match f with
    | .ret v=>Q (.ret v) s'
    | .brk=>Q .next s'
    |_=>∃c' m' h' tk',s'={ s with heap:=h',toks:=tk' }/\Fr h₀ env.locals h' m'/\News h₀ env.locals h' (led c'++own)/\(∀p∈led c',p.1 ∉ wr)/\Has m' (ps c')/\R (i+1) c') E { s with heap:=h,toks:=tk })
  (done:∀c u h tk,R n c->Fr h₀ env.locals h (fm u (ps c))->News h₀ env.locals h (led c)->Q .next { s with heap:=h,toks:=tk }):
  LoopAtV prog w A h₀ env x body Q E (.ref I) s:=by
 refine Uc.ei9 I fp wr n P St m₀ (led c₀) (fun i m nx=>∃c:σ,nx=led c/\Has m (ps c)/\R i c) ⟨rfl,W,hLf,hwr,hnw,hst,F,N,⟨c₀,rfl,hk,hp⟩,?_,?_⟩
 ·intro i v m₁ nx s₁ own w19q hi hP w20q hnw' hin hown1 hown st F₁ N₁;obtain⟨h,tk,rfl⟩:=w19q;(refine Uc.ex1 w20q fun c=>Uc.an3 fun e1q h1 hR=>?_;clear w20q;subst e1q)
  have N₂:News h₀ env.locals h (led c++own):=fun p hp=>N₁ p (by rw[List.mem_append] at hp ⊢;exact hp.symm)
  refine wpAny_mono (turn i v c m₁ h tk own hi hP hR hnw' (fun b hb o ho=>hown b (W.sub b hb) (hwr b hb) o ho) (fun p hp=>⟨hin p hp,hown1 p hp⟩) st (by rw[fm_eq h1];exact F₁) N₂) (fun f s₂ q=>?_) fun _ _ x=>x
  have fin:(∃c' m' h' tk',s₂={ s with heap:=h',toks:=tk' }/\Fr h₀ env.locals h' m'/\News h₀ env.locals h' (led c'++own)/\(∀p∈led c',p.1 ∉ wr)/\Has m' (ps c')/\R (i+1) c')->
    LoopStepU h₀ env.locals wr own (fun m nx=>∃c:σ,nx=led c/\Has m (ps c)/\R (i+1) c) { s with heap:=h,toks:=tk } .next s₂:=by
   intro w21q;(refine Uc.ex4 w21q fun c' m' h' tk'=>Uc.an6 fun e1q F' N' hn' hk' hR'=>?_;clear w21q;subst e1q)
   exact⟨rfl,h',tk',m',led c',rfl,F',fun p hp=>N' p (by rw[List.mem_append] at hp ⊢;exact hp.symm),hn',c',rfl,hk',hR'⟩
  cases f with
  |ret v=>exact .ret q
  |brk=>exact .brk q
  |next=>exact .next (fin q)
  |cont=>exact .cont (fin q)
 ·rintro h' tk m' nx F' N' _ ⟨c,rfl,h1,hR⟩
  exact done c m' h' tk hR (by rw[fm_eq h1];exact F') N'
noncomputable def isIt (o:Obj):Bool:=match o.data with
 | .fields _=>true
 |_=>false
noncomputable def Turn (h₀:Heap)(L:Addr){σ:Type}(led:σ->Led)(ps:σ->Nms)(R:σ->Prop)(c:σ)(I:Addr)(o:Obj)(s:Shared)(Q:Flow->Shared->Prop)(f:Flow)(s':Shared):Prop:=match f with
 | .ret v=>Q (.ret v) s'
 | .brk=>Q .next s'
 |_=>∃c' m' h' tk',s'={ s with heap:=h',toks:=tk' }/\Fr h₀ L h' m'/\News h₀ L h' (led c'++[(I,o)])/\(∀p∈led c',p.1∈(led c).map (·.1)∨isIt p.2=false)/\Has m' (ps c')/\R c'
theorem Turn.next {h₀ h':Heap}{L:Addr}{σ:Type}{led:σ->Led}{ps:σ->Nms}{R:σ->Prop}{c:σ}{I:Addr}{o:Obj}{s:Shared}{Q:Flow->Shared->Prop}{m':Str->Option Value}{news':Led}{tk':Nat}(c':σ)
  (F:Fr h₀ L h' m') (N:News h₀ L h' news') (hs:∀p∈led c'++[(I,o)],p∈news') (ha:∀p∈led c',p.1∈(led c).map (·.1)∨isIt p.2=false) (hk:Has m' (ps c')) (hp:R c'):Turn h₀ L led ps R c I o s Q .next { s with heap:=h',toks:=tk' }:=
 Uc.ei4 c' m' h' tk' ⟨rfl,F,News.sub N hs,ha,hk,hp⟩
theorem Turn.brk {h₀:Heap}{L:Addr}{σ:Type}{led:σ->Led}{ps:σ->Nms}{R:σ->Prop}{c:σ}{I:Addr}{o:Obj}{s s':Shared}{Q:Flow->Shared->Prop}(h:Q .next s'):Turn h₀ L led ps R c I o s Q .brk s':=h
theorem apart {h₀ h:Heap}{L I:Addr}{o:Obj}{l l':Led}(ho:isIt o=true)(hne:∀p∈l,p.1≠I)(N:News h₀ L h (l'++[(I,o)]))(h1:∀p∈l',p.1∈l.map (·.1)∨isIt p.2=false):∀p∈l',p.1≠I:=by
 intro p hp e
 rcases h1 p hp with q|q
 ·obtain⟨r,hr,hr'⟩:=List.mem_map.mp q
  exact hne r hr (hr'.trans e)
 ·have a:=(N p (List.mem_append.mpr (.inl hp))).1
  have b:=(N (I,o) (List.mem_append.mpr (.inr (.head _)))).1
  rw[e] at a
  have:p.2=o:=Option.some.inj (a.symm.trans b)
  rw[this,ho] at q
  cases q
theorem iter_one {σ:Type}{I:Addr}{n:Nat}{P:Nat->Value->Prop}{St:Nat->Heap->Prop}{m₀:Str->Option Value}(led:σ->Led)(ps:σ->Nms)(R:Nat->σ->Prop)(c₀:σ)
  (W:Walks prog w A I [I] [I] n P St) (hSt:∀i h,St i h->∃o,h.get? I=some o/\isIt o=true) (hL:I≠env.locals) (hI:h₀.get? I=none) (hst:St 0 s.heap)
  (F:Fr h₀ env.locals s.heap m₀) (N:News h₀ env.locals s.heap (led c₀)) (hnw:∀p∈led c₀,p.1≠I) (hk:Has m₀ (ps c₀)) (hp:R 0 c₀)
  (turn:∀i v (c:σ) (u:Str->Option Value) h tk o,i<n->P i v->R i c->(∀p∈led c,p.1≠I)->isIt o=true->Fr h₀ env.locals h (fun y=>if y=x then some v else fm u (ps c) y)->News h₀ env.locals h (led c++[(I,o)])->
   wpAny (model prog w) A (execs body env) (Turn h₀ env.locals led ps (R (i+1)) c I o { s with heap:=h,toks:=tk } Q) E { s with heap:=h,toks:=tk })
  (done:∀c u h tk,R n c->Fr h₀ env.locals h (fm u (ps c))->News h₀ env.locals h (led c)->Q .next { s with heap:=h,toks:=tk }):
  LoopAtV prog w A h₀ env x body Q E (.ref I) s:=by
 refine for_c led ps R c₀ W (fun hm=>hL (List.mem_singleton.mp hm).symm) (fun b hb=>by rw[List.mem_singleton.mp hb];exact hI) hst F N (fun p hp hm=>hnw p hp (List.mem_singleton.mp hm)) hk hp ?_ done
 intro i v c u h tk own hi hP hR hnw' hown hin st F₁ N₁
 obtain⟨o,ho,hit⟩:=hSt _ _ st
 have hne:∀p∈led c,p.1≠I:=fun p hp e=>hnw' p hp (List.mem_singleton.mpr e)
 have hIo:=hown I (List.mem_singleton.mpr rfl) o ho
 have all:∀p∈own,p=(I,o):=fun p hp=>by
  obtain⟨a,b⟩:=hin p hp
  have a':=List.mem_singleton.mp a
  rw[a',ho] at b
  exact Prod.ext a' (Option.some.inj b).symm
 have N₂:News h₀ env.locals h (led c++[(I,o)]):=News.sub N₁ fun p hp=>by
  rcases List.mem_append.mp hp with q|q
  ·exact List.mem_append.mpr (.inl q)
  ·rw[List.mem_singleton.mp q];exact List.mem_append.mpr (.inr hIo)
 refine wpAny_mono (turn i v c u h tk o hi hP hR hne hit F₁ N₂) (fun f s₂ q=>?_) fun _ _ x=>x
 have fin:(∃c' m' h' tk',s₂={ s with heap:=h',toks:=tk' }/\Fr h₀ env.locals h' m'/\News h₀ env.locals h' (led c'++[(I,o)])/\(∀p∈led c',p.1∈(led c).map (·.1)∨isIt p.2=false)/\Has m' (ps c')/\R (i+1) c')->
   ∃c' m' h' tk',s₂={ s with heap:=h',toks:=tk' }/\Fr h₀ env.locals h' m'/\News h₀ env.locals h' (led c'++own)/\(∀p∈led c',p.1 ∉ [I])/\Has m' (ps c')/\R (i+1) c':=by
  intro w23q;(refine Uc.ex4 w23q fun c' m' h' tk'=>Uc.an6 fun e1q F' N' hn' hk' hR'=>?_;clear w23q;subst e1q)
  refine Uc.ei4 c' m' h' tk' ⟨rfl,F',News.sub N' fun p hp=>?_,fun p hp hm=>apart hit hne N' hn' p hp (List.mem_singleton.mp hm),hk',hR'⟩
  rcases List.mem_append.mp hp with q|q
  ·exact List.mem_append.mpr (.inl q)
  ·rw[all p q];exact List.mem_append.mpr (.inr (.head _))
 cases f with
 |ret v=>exact q
 |brk=>exact q
 |next=>exact fin q
 |cont=>exact fin q
theorem iter_range {σ:Type}{r:Addr}{a b c:Int}{t₀ u₀ v₀:Tok}{n:Nat}{m₀:Str->Option Value}(led:σ->Led)(ps:σ->Nms)(R:Nat->σ->Prop)(c₀:σ)(hh:A.handled=none)
  (hr:IsRange s.heap r a b c t₀ u₀ v₀) (hsmall:Builtin.Range.small a b c=true) (hn:Builtin.Range.rangeSize a b c=(n:Int)) 
  (F:Fr h₀ env.locals s.heap m₀) (N:News h₀ env.locals s.heap (led c₀)) (hk:Has m₀ (ps c₀)) (hp:R 0 c₀)
  (turn:∀i t (c':σ) (u:Str->Option Value) h tk I o,i<n->R i c'->(∀p∈led c',p.1≠I)->isIt o=true->Fr h₀ env.locals h (fun y=>if y=x then some (.int (a+(i:Int)*c) t) else fm u (ps c') y)->News h₀ env.locals h (led c'++[(I,o)])->
   ∀Z:Flow->Shared->Prop,Hid (Turn h₀ env.locals led ps (R (i+1)) c' I o { s with heap:=h,toks:=tk } Q) Z->wpAny (model prog w) A (execs body env) Z E { s with heap:=h,toks:=tk })
  (done:∀c u h tk,R n c->Fr h₀ env.locals h (fm u (ps c))->News h₀ env.locals h (led c)->Q .next { s with heap:=h,toks:=tk }):
  wpAny (model prog w) A (pyIter (.ref r)) (fun it s₂=>LoopAtV prog w A h₀ env x body Q E it s₂) E s:=by
 refine wpAny_pyIter_range hr hsmall ?_
 have W:Walks prog w A s.heap.objs.size [s.heap.objs.size] [s.heap.objs.size] n (fun i v=>i<n/\∃t,v=.int (a+i*c) t)
   (fun i h=>IsRangeIter h s.heap.objs.size (a+(i:Nat)*c) ((n:Int)-(i:Nat)) c):=(Walks.range hh _ a c n).bound
 refine iter_one led ps R c₀ W (fun i h st=>⟨_,st,rfl⟩) (fun e=>absurd F.ns.lt (e▸Nat.lt_irrefl _)) (next_is_new F) (by show IsRangeIter _ _ _ _ _;rw[hn];simpa using Heap.get?_push_size _ rfl) (F.push _) (fun p hp=>⟨Heap.get?_push_of_some _ (N p hp).1,(N p hp).2⟩)
  (fun p hp hI=>absurd (Heap.lt_size (N p hp).1) (hI▸Nat.lt_irrefl _)) hk hp ?_ ?_
 ·rintro i v c' u h tk o hi ⟨_,t,rfl⟩ hR hne hit F₁ N₁
  exact turn i t c' u h tk _ o hi hR hne hit F₁ N₁ _ fun _ _ q=>q
 ·exact fun c u h tk hR F N=>done c u h tk hR F N
theorem iter_str {σ:Type}{y:Str}{t₀:Tok}{m₀:Str->Option Value}(led:σ->Led)(ps:σ->Nms)(R:Nat->σ->Prop)(c₀:σ)(hh:A.handled=none)
  (F:Fr h₀ env.locals s.heap m₀) (N:News h₀ env.locals s.heap (led c₀)) (hk:Has m₀ (ps c₀)) (hp:R 0 c₀)
  (turn:∀i k t (c':σ) (u:Str->Option Value) h tk I o,y.cps[i]? =some k->R i c'->(∀p∈led c',p.1≠I)->isIt o=true->Fr h₀ env.locals h (fun z=>if z=x then some (.str ⟨#[k]⟩ t) else fm u (ps c') z)->News h₀ env.locals h (led c'++[(I,o)])->
   ∀Z:Flow->Shared->Prop,Hid (Turn h₀ env.locals led ps (R (i+1)) c' I o { s with heap:=h,toks:=tk } Q) Z->wpAny (model prog w) A (execs body env) Z E { s with heap:=h,toks:=tk })
  (done:∀c u h tk,R y.cps.size c->Fr h₀ env.locals h (fm u (ps c))->News h₀ env.locals h (led c)->Q .next { s with heap:=h,toks:=tk }):
  wpAny (model prog w) A (pyIter (.str y t₀)) (fun it s₂=>LoopAtV prog w A h₀ env x body Q E it s₂) E s:=by
 have key:∀ty o,Walks prog w A s.heap.objs.size [s.heap.objs.size] [s.heap.objs.size] y.cps.size (SignAt y) (fun i h=>h.IsStrIter s.heap.objs.size ty y t₀ i)->(s.heap.push o).IsStrIter s.heap.objs.size ty y t₀ 0->
   LoopAtV prog w A h₀ env x body Q E (.ref s.heap.objs.size) { s with heap:=s.heap.push o }:=by
  intro ty o W st
  refine iter_one led ps R c₀ W (fun i h st=>let ⟨o,h1,_,h2⟩:=st;⟨o,h1,by unfold isIt;rw[h2]⟩) (fun e=>absurd F.ns.lt (e▸Nat.lt_irrefl _)) (next_is_new F) st (F.push _) (fun p hp=>⟨Heap.get?_push_of_some _ (N p hp).1,(N p hp).2⟩)
   (fun p hp hI=>absurd (Heap.lt_size (N p hp).1) (hI▸Nat.lt_irrefl _)) hk hp ?_ ?_
  ·rintro i v c' u h tk o' hi ⟨k,t,hk',rfl⟩ hR hne hit F₁ N₁
   exact turn i k t c' u h tk _ o' hk' hR hne hit F₁ N₁ _ fun _ _ q=>q
  ·exact fun c u h tk hR F N=>done c u h tk hR F N
 cases ha:y.cps.all (· <128)
 ·exact wpAny_pyIter_wide ha (key _ _ (Walks.strWide hh _ y t₀) ⟨_,Heap.get?_push_size _ rfl,rfl,rfl⟩)
 ·exact wpAny_pyIter_ascii ha (key _ _ (Walks.strAscii hh _ y t₀) ⟨_,Heap.get?_push_size _ rfl,rfl,rfl⟩)
noncomputable def GotF (h₀:Heap)(L:Addr){σ:Type}(led:σ->Led)(ps:σ->Nms)(P:σ->Prop)(s:Shared)(Q:Flow->Shared->Prop)(f:Flow)(s':Shared):Prop:=match f with
 | .next=>Got h₀ L led ps P s s'
 |f=>Q f s'
theorem GotF.mk {h₀ h':Heap}{L:Addr}{σ:Type}{led:σ->Led}{ps:σ->Nms}{P:σ->Prop}{s:Shared}{Q:Flow->Shared->Prop}{m':Str->Option Value}{news':Led}{tk':Nat}(c':σ)
  (F:Fr h₀ L h' m') (N:News h₀ L h' news') (hs:∀p∈led c',p∈news') (hk:Has m' (ps c')) (hp:P c'):GotF h₀ L led ps P s Q .next { s with heap:=h',toks:=tk' }:=Uc.ei4 c' m' h' tk' ⟨rfl,F,News.sub N hs,hk,hp⟩
theorem GotF.ret {h₀:Heap}{L:Addr}{σ:Type}{led:σ->Led}{ps:σ->Nms}{P:σ->Prop}{s s':Shared}{Q:Flow->Shared->Prop}{v:Value}(h:Q (.ret v) s'):GotF h₀ L led ps P s Q (.ret v) s':=h
theorem execs_join {σ:Type}{L:Addr}{st:Stmt}{rest:List Stmt}{m₀:Str->Option Value}(F₀:Fr h₀ L s.heap m₀)(led:σ->Led)(ps:σ->Nms)(P:σ->Prop)(h1:∀Z:Flow->Shared->Prop,Hid (GotF h₀ L led ps P s Q) Z->wpAny (model prog w) A (exec st env) Z E s)
  (h2:∀c u h tk,P c->Fr h₀ L h (fm u (ps c))->News h₀ L h (led c)->wpAny (model prog w) A (execs rest env) Q E { s with heap:=h,toks:=tk }):wpAny (model prog w) A (execs (st::rest) env) Q E s:=by
 refine wpAny_execs_cons (wpAny_mono (h1 _ fun _ _ q=>q) (fun f s' q=>?_) fun _ _ x=>x)
 cases f with
 |next=>
  (refine Uc.ex4 q fun c' m' h' tk'=>Uc.an5 fun e1q F' N' hk' hz=>?_;clear q;subst e1q)
  exact h2 c' m' h' tk' hz (by rw[fm_eq hk'];exact F') N'
 |ret v=>exact q
 |brk=>exact q
 |cont=>exact q
end
theorem intsAre_of (f:Nat->Int):∀(vs:List Value) (k:Nat),(∀i v,vs[i]? =some v->∃t,v=Value.int (f (k+i)) t)->IntsAre vs ((List.range vs.length).map fun i=>f (k+i))
 | [],_,_=>.nil
 |v::vs,k,h=>by
  obtain⟨t,rfl⟩:=h 0 v rfl
  have:=intsAre_of f vs (k+1) fun i v hi=>by
   have:=h (i+1) v hi
   rwa [show k+(i+1)=k+1+i by omega] at this
  rw[List.length_cons,List.range_succ_eq_map,List.map_cons,List.map_map]
  refine .cons _ _ ?_
  have e:((fun i=>f (k+i))∘Nat.succ)=fun i=>f (k+1+i):=by funext i;show f (k+(i+1))=_;rw[show k+(i+1)=k+1+i by omega]
  rw[e]
  exact this
section
variable {prog:Program}{w:World}{A:Around}{E:Value->Shared->Prop}{s:Shared}{h₀:Heap}{L:Addr}{m:Str->Option Value}
theorem list_range_K {r:Addr}{a b c:Int}{t u v:Tok}{n:Nat}{news:Led}{Q:Value->Shared->Prop}(hh:A.handled=none)(F:Fr h₀ L s.heap m)(N:News h₀ L s.heap news)
  (hr:IsRange s.heap r a b c t u v) (hsmall:Builtin.Range.small a b c=true) (hn:Builtin.Range.rangeSize a b c=(n:Int)) (hlen:n<=2^24)
  (hQ:∀h' tk (vs:List Value) cnt l,Fr h₀ L h' m->News h₀ L h' ((l,listOf vs.toArray cnt)::news)->(∀p∈news,p.1<l)->vs.length=n->IntsAre vs ((List.range n).map fun(i:Nat)=>a+(i:Int)*c)->Q (.ref l) { s with heap:=h',toks:=tk }):
  wpAny (model prog w) A (call (.type "list") [.ref r]) Q E s:=by
 refine call_list_range hh hr hsmall hn hlen fun h' tk acc c' hk hS hacc=>?_
 have hlen:acc.toList.length=n:=by simpa using hacc.1
 refine hQ h' tk acc.toList c' _ (F.keeps hk) (fun p hp=>?_) (fun p hp=>Heap.lt_size (N p hp).1) hlen ?_
 ·rcases List.mem_cons.mp hp with rfl|hp
  ·refine⟨by simpa using hS,fun e=>absurd F.ns.lt (e▸Nat.lt_irrefl _),?_⟩
   cases q:h₀.get? s.heap.objs.size with
   |none=>rfl
   |some o'=>exact absurd (Heap.lt_size (F.keep _ _ q)) (Nat.lt_irrefl _)
  ·exact⟨hk _ _ (N p hp).1,(N p hp).2⟩
 ·have:=intsAre_of (fun i=>a+(i:Int)*c) acc.toList 0 fun i v hv=>by
   have hi:i<n:=by
    rw[<-hlen];exact(List.getElem?_eq_some_iff.mp hv).1
   rw[Nat.zero_add]
   exact hacc.2 i v (by simpa using hv)
  rw[hlen] at this
  simpa using this
theorem setL_eq (v:Value):∀(xs:List Value) (k:Nat),k<xs.length->ki_setL xs k v=some (xs.set k v)
 | [],k,h=>absurd h (Nat.not_lt_zero _)
 |x::xs,0,_=>rfl
 |x::xs,k+1,h=>by
  rw[ki_setL,setL_eq v xs k (Nat.lt_of_succ_lt_succ h)]
  rfl
theorem set_listH {D:Addr}{n j:Nat}{t:Tok}{v:Value}{vs:List Value}{rest:Led}{Q:Unit->Shared->Prop}(F:Fr h₀ L s.heap m)(N:News h₀ L s.heap ((D,listOf vs.toArray n)::rest))(hj:j<vs.length)(hj':j<100000000)
  (hne:∀p∈rest,p.1≠D) (h:∀h',Fr h₀ L h' m->News h₀ L h' ((D,listOf (vs.set j v).toArray n)::rest)->Q () { s with heap:=h' }):wpAny (model prog w) A (setItem (.ref D) (.int (j:Int) t) v) Q E s:=
 ki_set (its:=vs.toArray) F N (by omega) (by omega) (by rw[Int.toNat_natCast];exact setL_eq v vs j hj) (.head hne) h
theorem intsAre_len {vs:List Value}{ns:List Int}(h:IntsAre vs ns):vs.length=ns.length:=by
 induction h with
 |nil=>rfl
 |cons n t h ih=>exact congrArg Nat.succ ih
theorem intsAre_set (x:Int)(t:Tok){vs:List Value}{ns:List Int}(h:IntsAre vs ns):∀j:Nat,IntsAre (vs.set j (.int x t)) (ns.set j x):=by
 induction h with
 |nil=>exact fun j=>.nil
 |cons n t' h ih=>
  intro j
  cases j with
  |zero=>exact .cons x t h
  |succ j=>exact .cons n t' (ih j)
theorem mm (a b:Int):(if b<a then b else a)=min a b:=by rw[Int.min_def];split<;>split<;>omega
end
end Uc
namespace Uc
noncomputable def stP (M:Model)(A:Around)(rest:List Stmt)(env:Env)(Q:Flow->Shared->Prop)(E:Value->Shared->Prop):Flow->Shared->Prop:=fun f s'=>match f with| .next=>wpAny M A (execs rest env) Q E s'|f=>Q f s'
theorem execs_cons_h {M:Model}{A:Around}{env:Env}{st:Stmt}{rest:List Stmt}{Q:Flow->Shared->Prop}{E:Value->Shared->Prop}{s:Shared}
  (h:∀Z:Flow->Shared->Prop,Hid (stP M A rest env Q E) Z->wpAny M A (exec st env) Z E s):wpAny M A (execs (st::rest) env) Q E s:=
 wpAny_execs_cons (h _ fun _ _ q=>q)
section
variable {M:Model}{A:Around}{env:Env}{rest:List Stmt}{Q Z:Flow->Shared->Prop}{E:Value->Shared->Prop}{s:Shared}
theorem Hid.next (h:Hid (stP M A rest env Q E) Z)(q:wpAny M A (execs rest env) Q E s):Z .next s:=h _ _ q
theorem Hid.ret {v:Value}(h:Hid (stP M A rest env Q E) Z)(q:Q (.ret v) s):Z (.ret v) s:=h _ _ q
theorem Hid.cont (h:Hid (stP M A rest env Q E) Z)(q:Q .cont s):Z .cont s:=h _ _ q
end
theorem letAE {M:Model}{A:Around}{body:List Stmt}{env:Env}{Q:Flow->Shared->Prop}{E:Value->Shared->Prop}{s:Shared}(h:let AA:=A;let EE:=env;wpAny M AA (execs body EE) Q E s):wpAny M A (execs body env) Q E s:=h
theorem room3 {n a k b l:Nat}(h:n+a<l)(e:k+b<=a):n+k+b<l:=by omega
theorem room2 {n a b l:Nat}(h:n+a<l)(e:b<=a):n+b<l:=by omega
end Uc
end
local macro_rules | `(tactic|walk_at "N")=> `(tactic|with_reducible first|refine Uc.Hid.next ‹_› ?_|refine Uc.Hid.ret ‹_› ?_|refine Uc.Hid.brk ‹_› ?_|refine Uc.Hid.cont ‹_› ?_)
local macro_rules | `(tactic|walk_at "G")=> `(tactic|with_reducible refine Uc.Hid.go ‹_› ?_)
local macro_rules | `(tactic|walk_at "D")=> `(tactic|try dsimp only)
local macro_rules | `(tactic|walk_at "T")=> `(tactic|first|walk1|walk_at "N"|(walk_at "G";walk_at "D")|(dsimp only;walk1)|(leave1;walk_at "D"))
local macro_rules | `(tactic|walk_at "J")=> `(tactic|with_reducible refine fun _ (_:Uc.Hid _ _)=>?_)
local macro_rules | `(tactic|walk_at "P")=> `(tactic|first|walk_at "J"|(with_reducible refine fun _ _ (_:Uc.Hid _ _) (_:Uc.Hid _ _)=>?_)|(k_unfold;walk_at "D"))
local macro_rules | `(tactic|walk_at "F")=> `(tactic|((fail_if_success with_reducible refine Uc.isW ?_);(fail_if_success with_reducible refine Uc.isI ?_)))
local macro_rules | `(tactic|walk_at "I")=> `(tactic|first|exact Uc.ledgR|exact Uc.ledgD Uc.ledgR|((with_reducible repeat(first|exact Uc.ledgR|refine Uc.ledgK ?_|refine Uc.ledgD ?_));done)|((repeat(first|exact Uc.allN|(refine Uc.allB ?_ ?_;focus k_mem)));first|done|(intro _ h;with_reducible repeat(first|exact h|refine List.mem_cons_of_mem _ ?_))))
local macro_rules | `(tactic|walk_at "r")=> `(tactic|first|assumption|exact Uc.room3 (by assumption) (by decide)|exact Uc.room2 (by assumption) (by decide)|ktr_room)
local macro_rules | `(tactic|walk_at "u")=> `(tactic|first|assumption|exact Uc.room3 (by assumption) (by decide)|exact Uc.room2 (by assumption) (by decide)|ktr_units)
local macro_rules | `(tactic|walk_at "W")=> `(tactic|repeat' (first|walk_at "P"|(walk_at "F";walk_at "T")))
local macro_rules | `(tactic|walk_at "H")=> `(tactic|((try(walk_at "J"));(try(first|walk_at "N"|(walk_at "G";walk_at "D")))))
section
namespace Uc
noncomputable def bump (cs:List Int)(b:Nat):List Int:=let l:=cs++List.replicate (b+1-cs.length) 0;l.set b (l.getD b 0+1)
structure WS where
 cs:List Int
 b:Nat
 n:Nat
 nt:Nat
noncomputable def wsGo:List Nat->WS->WS
 | [],s=>s
 |c::r,s=>if c=32 then wsGo r ⟨s.cs,s.b+1,s.n+1,s.nt⟩ else if c=9 then wsGo r ⟨bump s.cs s.b,0,s.n+1,s.nt+1⟩ else s
theorem wsGo_cons (c:Nat)(r:List Nat)(s:WS):wsGo (c::r) s=if c=32 then wsGo r ⟨s.cs,s.b+1,s.n+1,s.nt⟩ else if c=9 then wsGo r ⟨bump s.cs s.b,0,s.n+1,s.nt+1⟩ else s:=rfl
noncomputable def wsOf (x:Str):WS:=wsGo x.cps.toList ⟨[],0,0,0⟩
end Uc
namespace Uc
theorem drop_some {x:Str}{i k:Nat}(h:x.cps[i]? =some k):x.cps.toList.drop i=k::x.cps.toList.drop (i+1):=by
 obtain⟨hi,e⟩:=Array.getElem?_eq_some_iff.mp h
 have hi':i<x.cps.toList.length:=by simpa using hi
 rw[List.drop_eq_getElem_cons hi']
 congr 1
theorem chr_eq (k c:Nat):((⟨#[k]⟩:Str)==⟨#[c]⟩)=(k==c):=by
 by_cases h:k=c
 ·subst h;simp
 ·have:(k==c)=false:=by simpa using h
  rw[this,beq_eq_false_iff_ne]
  intro e
  injection e with e
  simp at e
  exact h e
theorem sp_is:ofString " "=⟨#[32]⟩:=by rfl
theorem tab_is:ofString "\t"=⟨#[9]⟩:=by rfl
end Uc
end
section
namespace Uc
theorem allLt_ne2 {d e:Addr}{l:List (Addr×Obj)}(h:AllLt d l)(k:@LE.le Nat _ d e):∀q∈l,q.1≠e:=fun q hq=>Nat.ne_of_lt (Nat.lt_of_lt_of_le (allLt_all h q hq) k)
section
variable {prog:Program}{w:World}{A:Around}{E:Value->Shared->Prop}{s:Shared}{h₀:Heap}{L:Addr}{m:Str->Option Value}
theorem list_strK {x:Str}{t:Tok}{news:Led}{Q:Value->Shared->Prop}(hh:A.handled=none)(F:Fr h₀ L s.heap m)(N:News h₀ L s.heap news)(hsz:x.length<=100000)
  (hQ:∀h' tk (vs:List Value) cnt l,Fr h₀ L h' m->News h₀ L h' ((l,listOf vs.toArray cnt)::news)->(∀p∈news,p.1<l)->StrsAre vs (signs x)->Q (.ref l) { s with heap:=h',toks:=tk }):
  wpAny (model prog w) A (call (.type "list") [.str x t]) Q E s:=by
 refine call_list_str hh x t (hn:=Nat.le_trans hsz (by decide)) fun h' tk acc' c' hk hS' hacc=>?_
 have hC:CarriedAll acc'.toList ((signs x).map .str):=carriedAll_of_get _ _ (by simp[hacc.1,signs]) fun j v hv=>by
  obtain⟨c,u,hc,rfl⟩:=hacc.2 j v (by simpa using hv)
  exact⟨.str ⟨#[c]⟩,by simp[signs,hc],.str _ _⟩
 refine hQ h' tk acc'.toList c' _ (F.keeps hk) (fun p hp=>?_) (fun p hp=>Heap.lt_size (N p hp).1) (StrsAre.ofCarried hC)
 rcases List.mem_cons.mp hp with rfl|hp
 ·refine⟨by simpa using hS',fun e=>absurd F.ns.lt (e▸Nat.lt_irrefl _),?_⟩
  cases q:h₀.get? s.heap.objs.size with
  |none=>rfl
  |some o'=>exact absurd (Heap.lt_size (F.keep _ _ q)) (Nat.lt_irrefl _)
 ·exact⟨hk _ _ (N p hp).1,(N p hp).2⟩
theorem ne_nil_ff {l b:Addr}{n n':Nat}{news:Led}{Q:Value->Shared->Prop}(N:News h₀ L s.heap news)(hl:(l,listOf #[] n)∈news)(hb:(b,listOf #[] n')∈news)(hu:A.units<cLine)(h:Q (.bool false) s):wpAny (model prog w) A (compareOp .NotEq (.ref l) (.ref b)) Q E s:=
 cmp_ofNotEq (PySem.SeqAt.RcNeAt.lists (e:=fun _=>true) ⟨_,(N _ hl).1,rfl,n,rfl⟩ ⟨_,(N _ hb).1,rfl,n',rfl⟩ rfl hu (fun j h1 _=>absurd h1 (Nat.not_lt_zero _)) prog w E Q h)
theorem ne_nil_tt {l b:Addr}{v:Value}{vs:List Value}{n n':Nat}{news:Led}{Q:Value->Shared->Prop}(N:News h₀ L s.heap news)(hl:(l,listOf (v::vs).toArray n)∈news)(hb:(b,listOf #[] n')∈news)(hu:A.units<cLine)(h:Q (.bool true) s):wpAny (model prog w) A (compareOp .NotEq (.ref l) (.ref b)) Q E s:=
 cmp_ofNotEq (PySem.SeqAt.RcNeAt.lists_lengths ⟨_,(N _ hl).1,rfl,n,rfl⟩ ⟨_,(N _ hb).1,rfl,n',rfl⟩ (by simp) hu prog w E Q h)
end
end Uc
end
local macro_rules | `(tactic|walk_at "execs cons")=> `(tactic|(refine Uc.execs_cons_h ?_;intro _ _))
local macro_rules | `(tactic|walk_at "execs cons")=> `(tactic|(dsimp only;k_gentoks))
local macro_rules | `(tactic|walk_at "execs nil")=> `(tactic|(dsimp only;k_gentoks))
local macro_rules | `(tactic|k_all)=> `(tactic|first|with_reducible assumption|exact Uc.allLt_ne2 ‹_› (by omega))
section
namespace Uc
noncomputable def isWs (c:Nat):Bool:=c==10||c==9||c==13||c==32
noncomputable def qGo:List Nat->List Nat->List Nat×List Nat
 | [],acc=>(acc,[])
 |c::r,acc=>if c=34 then(acc,r) else if c=92 then(match r with
  | []=>(acc,[])
  |d::r'=>qGo r' (acc++[d])) else qGo r (acc++[c])
noncomputable def bGo:List Nat->List Nat->List Nat×List Nat
 | [],acc=>(acc,[])
 |c::r,acc=>if isWs c then(acc,r) else if c=92 then(match r with
  | []=>(acc,[])
  |d::r'=>bGo r' (acc++[d])) else bGo r (acc++[c])
noncomputable def tokGo:List Nat->List Nat×List Nat
 | []=>([],[])
 |c::r=>if isWs c then tokGo r else if c=34 then qGo r [] else if c=92 then(match r with
  | []=>([],[])
  |d::r'=>bGo r' [d]) else bGo r [c]
theorem tok_eq (c:Nat)(r:List Nat):tokGo (c::r)=if isWs c then tokGo r else if c=34 then qGo r [] else if c=92 then(match r with
  | []=>([],[])
  |d::r'=>bGo r' [d]) else bGo r [c]:=by
 cases r<;>rfl
theorem q_eq (c:Nat)(r acc:List Nat):qGo (c::r) acc=if c=34 then(acc,r) else if c=92 then(match r with
  | []=>(acc,[])
  |d::r'=>qGo r' (acc++[d])) else qGo r (acc++[c]):=by
 cases r<;>rfl
theorem b_eq (c:Nat)(r acc:List Nat):bGo (c::r) acc=if isWs c then(acc,r) else if c=92 then(match r with
  | []=>(acc,[])
  |d::r'=>bGo r' (acc++[d])) else bGo r (acc++[c]):=by
 cases r<;>rfl
theorem tok_ws {c:Nat}{r:List Nat}(h:isWs c=true):tokGo (c::r)=tokGo r:=by rw[tok_eq,if_pos h]
theorem tok_q (r:List Nat):tokGo (34::r)=qGo r []:=by rw[tok_eq,if_neg (by decide),if_pos rfl]
theorem tok_e1 (d:Nat)(r:List Nat):tokGo (92::d::r)=bGo r [d]:=by rw[tok_eq,if_neg (by decide),if_neg (by decide),if_pos rfl]
theorem tok_b {c:Nat}{r:List Nat}(h:isWs c=false)(h1:c≠34)(h2:c≠92):tokGo (c::r)=bGo r [c]:=by rw[tok_eq,if_neg (by rw[h];decide),if_neg h1,if_neg h2]
theorem q_q (r acc:List Nat):qGo (34::r) acc=(acc,r):=by rw[q_eq,if_pos rfl]
theorem q_e1 (d:Nat)(r acc:List Nat):qGo (92::d::r) acc=qGo r (acc++[d]):=by rw[q_eq,if_neg (by decide),if_pos rfl]
theorem q_b {c:Nat}{r acc:List Nat}(h1:c≠34)(h2:c≠92):qGo (c::r) acc=qGo r (acc++[c]):=by rw[q_eq,if_neg h1,if_neg h2]
theorem b_w {c:Nat}{r acc:List Nat}(h:isWs c=true):bGo (c::r) acc=(acc,r):=by rw[b_eq,if_pos h]
theorem b_e1 (d:Nat)(r acc:List Nat):bGo (92::d::r) acc=bGo r (acc++[d]):=by rw[b_eq,if_neg (by decide),if_pos rfl]
theorem b_b {c:Nat}{r acc:List Nat}(h1:isWs c=false)(h2:c≠92):bGo (c::r) acc=bGo r (acc++[c]):=by rw[b_eq,if_neg (by rw[h1];decide),if_neg h2]
noncomputable def chr1 (c:Nat):Str:=⟨#[c]⟩
noncomputable def chrs (l:List Nat):List Str:=l.map chr1
end Uc
end
section
namespace Uc
noncomputable def b1S:List Nat:=[173,847,6150,6155,6156,6157,8203,8204,8205,8288,65279]
noncomputable def signOf (n:Nat):Nat:=if n%27<11 then b1S.getD (n%27) 0 else 65013+n%27
noncomputable def wsS:List Nat:=[32,10,9,13]
theorem slice_take (l:List Nat)(k:Nat)(z:Int)(hz:z=(k:Int)):Txt.slice ⟨l.toArray⟩ none (some z)=⟨(l.take k).toArray⟩:=by
 subst hz
 rw[slT]
theorem slice_drop (l:List Nat)(k:Nat)(z:Int)(hz:z=(k:Int)):Txt.slice ⟨l.toArray⟩ (some z) none=⟨(l.drop k).toArray⟩:=by
 subst hz
 rw[slF]
theorem fdiv_nat (r k:Nat):(r:Int).fdiv (k:Int)=((r / k:Nat):Int):=by
 rw[Int.fdiv_eq_ediv_of_nonneg _ (by(walk_at "O"))];rfl
theorem fmod_nat (r k:Nat):(r:Int).fmod (k:Int)=((r%k:Nat):Int):=by
 rw[Int.fmod_eq_emod_of_nonneg _ (by(walk_at "O"))];rfl
theorem no_lig {P:List Nat}(h1:¬ P=[102,102,105])(h2:¬ P=[102,102])(h3:¬ P=[102,105]):([ofString "ffi",ofString "ff",ofString "fi"].any fun x=>x==(⟨P.toArray⟩:Str))=false:=by
 rw[show ofString "ffi"=(⟨[102,102,105].toArray⟩:Str) from by rfl,show ofString "ff"=(⟨[102,102].toArray⟩:Str) from by rfl,show ofString "fi"=(⟨[102,105].toArray⟩:Str) from by rfl]
 have ne:∀Q:List Nat,¬ P=Q->((⟨Q.toArray⟩:Str)==(⟨P.toArray⟩:Str))=false:=fun Q h=>by
  rw[beq_eq_false_iff_ne]
  intro e
  injection e with e
  exact h (by simpa using e.symm)
 simp only[List.any_cons,List.any_nil,ne _ h1,ne _ h2,ne _ h3,Bool.or_false]
theorem chrs_sum:∀l:List Nat,((chrs l).map (·.length)).sum=l.length
 | []=>rfl
 |c::l=>by
  have:=chrs_sum l
  unfold chrs at this ⊢
  rw[List.map_cons,List.map_cons,List.sum_cons,this,List.length_cons]
  show 1+_=_
  (walk_at "O")
theorem app2 (a b:List Nat):(⟨a.toArray⟩:Str)++(⟨b.toArray⟩:Str)=⟨(a++b).toArray⟩:=by
 show(⟨a.toArray++b.toArray⟩:Str)=_
 simp
theorem join_chrs (l:List Nat):Txt.join (ofString "") (chrs l)=⟨l.toArray⟩:=by
 rw[show Txt.join (ofString "") (chrs l)=Str.join (ofString "") (chrs l) from eq_of_beq (join_plain_closes _ _)]
 induction l with
 |nil=>rfl
 |cons c l ih=>
  cases l with
  |nil=>rfl
  |cons d l=>
   show chr1 c++ofString ""++Str.join (ofString "") (chrs (d::l))=_
   rw[ih,show ofString ""=(⟨([]:List Nat).toArray⟩:Str) from by rfl,show chr1 c=(⟨[c].toArray⟩:Str) from rfl,app2,app2]
   rfl
theorem sign_lo (n:Nat)(h:(n:Int).fmod 27<11):Txt.item (ofString "\u00ad\u034f\u1806\u180b\u180c\u180d\u200b\u200c\u200d\u2060\ufeff") ((n:Int).fmod 27)=⟨[signOf n].toArray⟩:=by
 have e:(n:Int).fmod 27=((n%27:Nat):Int):=fmod_nat n 27
 rw[e] at h ⊢
 unfold signOf
 have h':n%27<11:=by(walk_at "O")
 rw[if_pos h']
 generalize n%27=z at h'
 clear h
 revert z
 decide+kernel
theorem sign_hi (n:Nat)(h:¬ (n:Int).fmod 27<11):(⟨#[(65013+(n:Int).fmod 27).toNat]⟩:Str)=⟨[signOf n].toArray⟩:=by
 have e:(n:Int).fmod 27=((n%27:Nat):Int):=fmod_nat n 27
 rw[e] at h ⊢
 unfold signOf
 rw[if_neg (by(walk_at "O"))]
 exact congrArg (fun z:Nat=>(⟨#[z]⟩:Str)) (by(walk_at "O"))
theorem appQ1 (b:List Nat):ofString "\"\\"++(⟨b.toArray⟩:Str)=⟨(34::92::b).toArray⟩:=by
 rw[show ofString "\"\\"=(⟨[34,92].toArray⟩:Str) from by rfl,app2];rfl
theorem appQ2 (a:List Nat):(⟨a.toArray⟩:Str)++ofString "\""=⟨(a++[34]).toArray⟩:=by
 rw[show ofString "\""=(⟨[34].toArray⟩:Str) from by rfl,app2]
theorem len_mk (a:List Nat):(⟨a.toArray⟩:Str).length=a.length:=by show a.toArray.size=_;simp
noncomputable def esc1 (c:Nat):Str:=⟨[92,c].toArray⟩
theorem join_esc (l:List Nat):Txt.join (ofString "") (l.map esc1)=⟨((l.map fun c=>[92,c]).flatten).toArray⟩:=by
 rw[show Txt.join (ofString "") (l.map esc1)=Str.join (ofString "") (l.map esc1) from eq_of_beq (join_plain_closes _ _)]
 induction l with
 |nil=>rfl
 |cons c l ih=>
  cases l with
  |nil=>rfl
  |cons d l=>
   show esc1 c++ofString ""++Str.join (ofString "") ((d::l).map esc1)=_
   rw[ih,show ofString ""=(⟨([]:List Nat).toArray⟩:Str) from by rfl,show esc1 c=(⟨[92,c].toArray⟩:Str) from rfl,app2,app2]
   rfl
theorem esc_sum:∀l:List Nat,((l.map esc1).map (·.length)).sum=2*l.length
 | []=>rfl
 |c::l=>by
  rw[List.map_cons,List.map_cons,List.sum_cons,esc_sum l,List.length_cons]
  show 2+_=_
  (walk_at "O")
theorem esc_w {l:List Nat}(h:l.length<=10000):((l.map esc1).map (·.length)).sum+(l.map esc1).length<=1048576:=by
 rw[esc_sum,List.length_map]
 (walk_at "O")
end Uc
end
section
namespace Uc
open PySem.Calls
/-! pure expressions over a frame's names,in one step -/
set_option genInjectivity false in
set_option genSizeOf false in
inductive PV where
 |int (i:Int)|str (x:Str)|bool (b:Bool)|none|val (v:Value)
noncomputable def PV.den (t:Tok):PV->Value
 | .int i=>.int i t
 | .str x=>.str x t
 | .bool b=>.bool b
 | .none=>.none
 | .val v=>v
noncomputable def toPV:Value->PV
 | .int i _=>.int i
 | .str x _=>.str x
 | .bool b=>.bool b
 | .none=>.none
 |v=>.val v
theorem toPV_den (v:Value):∃t,(toPV v).den t=v:=by
 cases v<;>first|exact⟨0,rfl⟩|exact⟨_,rfl⟩
set_option genInjectivity false in
set_option genSizeOf false in
inductive Rs where|bad|ok (v:PV)|cond (c:Prop) (v:PV)
set_option genInjectivity false in
set_option genSizeOf false in
inductive Bs where|bad|ok (p:Prop)|cond (c p:Prop)
set_option genInjectivity false in
set_option genSizeOf false in
inductive Hs where|bad|ok (h:Option Int)|cond (c:Prop) (h:Option Int)
noncomputable def Rs.holds (k:PV->Prop):Rs->Prop
 | .bad=>False
 | .ok v=>k v
 | .cond c v=>c/\k v
noncomputable def Bs.holds (k:Prop->Prop):Bs->Prop
 | .bad=>False
 | .ok v=>k v
 | .cond c v=>c/\k v
noncomputable def Hs.holds (k:Option Int->Prop):Hs->Prop
 | .bad=>False
 | .ok v=>k v
 | .cond c v=>c/\k v
theorem Rs.mono {k k':PV->Prop}(h:∀v,k v->k' v):∀{r:Rs},r.holds k->r.holds k'
 | .ok _,q=>h _ q
 | .cond _ _,q=>⟨q.1,h _ q.2⟩
theorem Bs.mono {k k':Prop->Prop}(h:∀v,k v->k' v):∀{r:Bs},r.holds k->r.holds k'
 | .ok _,q=>h _ q
 | .cond _ _,q=>⟨q.1,h _ q.2⟩
theorem Hs.mono {k k':Option Int->Prop}(h:∀v,k v->k' v):∀{r:Hs},r.holds k->r.holds k'
 | .ok _,q=>h _ q
 | .cond _ _,q=>⟨q.1,h _ q.2⟩
noncomputable def Rs.and (c:Prop):Rs->Rs
 | .bad=>.bad
 | .ok v=>.cond c v
 | .cond d v=>.cond (c/\d) v
noncomputable def Bs.and (c:Prop):Bs->Bs
 | .bad=>.bad
 | .ok v=>.cond c v
 | .cond d v=>.cond (c/\d) v
noncomputable def Hs.and (c:Prop):Hs->Hs
 | .bad=>.bad
 | .ok v=>.cond c v
 | .cond d v=>.cond (c/\d) v
theorem Hs.and_h {c:Prop}{k:Option Int->Prop}:∀{r:Hs},(r.and c).holds k->c/\r.holds k
 | .ok _,q=>q
 | .cond _ _,q=>⟨q.1.1,q.1.2,q.2⟩
theorem Rs.and_h {c:Prop}{k:PV->Prop}:∀{r:Rs},(r.and c).holds k->c/\r.holds k
 | .ok _,q=>q
 | .cond _ _,q=>⟨q.1.1,q.1.2,q.2⟩
theorem Bs.and_h {c:Prop}{k:Prop->Prop}:∀{r:Bs},(r.and c).holds k->c/\r.holds k
 | .ok _,q=>q
 | .cond _ _,q=>⟨q.1.1,q.1.2,q.2⟩
noncomputable def bin2 (f:PV->PV->Rs):Rs->Rs->Rs
 | .ok a,.ok b=>f a b
 | .ok a,.cond c b=>(f a b).and c
 | .cond c a,.ok b=>(f a b).and c
 | .cond c a,.cond d b=>(f a b).and (c/\d)
 |_,_=>.bad
noncomputable def bin2B (f:PV->PV->Bs):Rs->Rs->Bs
 | .ok a,.ok b=>f a b
 | .ok a,.cond c b=>(f a b).and c
 | .cond c a,.ok b=>(f a b).and c
 | .cond c a,.cond d b=>(f a b).and (c/\d)
 |_,_=>.bad
theorem bin2_h {f:PV->PV->Rs}{k:PV->Prop}{a b:Rs}(q:(bin2 f a b).holds k):a.holds fun x=>b.holds fun y=>(f x y).holds k:=by
 cases a<;>cases b<;>first|exact q.elim|skip
 ·exact q
 ·exact Rs.and_h q
 ·exact Rs.and_h (r:=f _ _) q
 ·exact⟨(Rs.and_h q).1.1,(Rs.and_h q).1.2,(Rs.and_h q).2⟩
theorem bin2B_h {f:PV->PV->Bs}{k:Prop->Prop}{a b:Rs}(q:(bin2B f a b).holds k):a.holds fun x=>b.holds fun y=>(f x y).holds k:=by
 cases a<;>cases b<;>first|exact q.elim|skip
 ·exact q
 ·exact Bs.and_h q
 ·exact Bs.and_h (r:=f _ _) q
 ·exact⟨(Bs.and_h q).1.1,(Bs.and_h q).1.2,(Bs.and_h q).2⟩
noncomputable def pBin (op:Operator):PV->PV->Rs
 | .int a,.int b=>(match op with
  | .Add=>.ok (.int (a+b))
  | .Sub=>.ok (.int (a-b))
  | .Mult=>.cond (-1000000000<=a/\a<=1000000000) (.int (a*b))
  | .FloorDiv=>.cond (1<=b/\b<=1000000000) (.int (a.fdiv b))
  | .Mod=>.cond (1<=b/\b<=1000000000) (.int (a.fmod b))
  | .Pow=>.cond ((-1000000000<=a/\a<=1000000000)/\0<=b/\b<=20) (.int (a^b.toNat))
  |_=>.bad)
 | .str x,.str y=>(match op with
  | .Add=>.cond (x.length+y.length<=16777216) (.str (x++y))
  |_=>.bad)
 | .str x,.int i=>(match op with
  | .Mult=>.cond (x.length<=16/\0<=i/\i<=1048576) (.str (Txt.mul x i))
  |_=>.bad)
 |_,_=>.bad
noncomputable def pCmp (op:CmpOp):PV->PV->Bs
 | .int a,.int b=>(match op with
  | .Eq=>.ok (a=b)
  | .NotEq=>.ok (¬ a=b)
  | .Lt=>.ok (a<b)
  | .LtE=>.ok (a<=b)
  | .Gt=>.ok (b<a)
  | .GtE=>.ok (b<=a)
  |_=>.bad)
 | .str x,.str y=>(match op with
  | .Eq=>.ok (x=y)
  | .NotEq=>.ok (¬ x=y)
  | .In=>.ok ((Builtin.Str.occurrences y x 0 y.length 1).isEmpty=false)
  |_=>.bad)
 |_,_=>.bad
noncomputable def pTru:PV->Bs
 | .int a=>.ok (¬ a=0)
 | .str x=>.cond (x.length<=16777216) (0<x.length)
 | .bool b=>.ok (b=true)
 | .none=>.ok False
 |_=>.bad
noncomputable def truB:Rs->Bs
 | .bad=>.bad
 | .ok v=>pTru v
 | .cond c v=>(pTru v).and c
noncomputable def notB:Bs->Bs
 | .bad=>.bad
 | .ok p=>.ok (¬ p)
 | .cond c p=>.cond c (¬ p)
noncomputable def andB:Bs->Bs->Bs
 | .ok p,.ok q=>.ok (p/\q)
 | .ok p,.cond c q=>.cond (p->c) (p/\q)
 | .cond c p,.ok q=>.cond c (p/\q)
 | .cond c p,.cond d q=>.cond (c/\(p->d)) (p/\q)
 |_,_=>.bad
noncomputable def orB:Bs->Bs->Bs
 | .ok p,.ok q=>.ok (p∨q)
 | .ok p,.cond c q=>.cond (¬ p->c) (p∨q)
 | .cond c p,.ok q=>.cond c (p∨q)
 | .cond c p,.cond d q=>.cond (c/\(¬ p->d)) (p∨q)
 |_,_=>.bad
theorem truB_h {k:Prop->Prop}:∀{a:Rs},(truB a).holds k->a.holds fun x=>(pTru x).holds k
 | .ok _,q=>q
 | .cond _ _,q=>Bs.and_h q
theorem notB_h {k:Prop->Prop}:∀{a:Bs},(notB a).holds k->a.holds fun x=>k (¬ x)
 | .ok _,q=>q
 | .cond _ _,q=>q
theorem andB_h {k:Prop->Prop}{a b:Bs}(q:(andB a b).holds k):a.holds fun p=>(p->b.holds fun q=>k (p/\q))/\∃q,k (p/\q):=by
 cases a<;>cases b<;>first|exact q.elim|skip
 ·exact⟨fun _=>q,_,q⟩
 ·exact⟨fun h=>⟨q.1 h,q.2⟩,_,q.2⟩
 ·exact⟨q.1,fun _=>q.2,_,q.2⟩
 ·exact⟨q.1.1,fun h=>⟨q.1.2 h,q.2⟩,_,q.2⟩
theorem orB_h {k:Prop->Prop}{a b:Bs}(q:(orB a b).holds k):a.holds fun p=>(¬ p->b.holds fun q=>k (p∨q))/\∃q,k (p∨q):=by
 cases a<;>cases b<;>first|exact q.elim|skip
 ·exact⟨fun _=>q,_,q⟩
 ·exact⟨fun h=>⟨q.1 h,q.2⟩,_,q.2⟩
 ·exact⟨q.1,fun _=>q.2,_,q.2⟩
 ·exact⟨q.1.1,fun h=>⟨q.1.2 h,q.2⟩,_,q.2⟩
noncomputable def iteV (p:Prop):PV->PV->Rs
 | .int a,.int b=>.ok (.int (@ite Int p (Classical.propDecidable p) a b))
 | .str a,.str b=>.ok (.str (@ite Str p (Classical.propDecidable p) a b))
 |_,_=>.bad
noncomputable def iteR (p:Prop):Rs->Rs->Rs
 | .ok a,.ok b=>iteV p a b
 | .ok a,.cond c b=>(iteV p a b).and (¬ p->c)
 | .cond c a,.ok b=>(iteV p a b).and (p->c)
 | .cond c a,.cond d b=>(iteV p a b).and ((p->c)/\(¬ p->d))
 |_,_=>.bad
noncomputable def rIte:Bs->Rs->Rs->Rs
 | .bad,_,_=>.bad
 | .ok p,a,b=>iteR p a b
 | .cond c p,a,b=>(iteR p a b).and c
theorem iteV_h {p:Prop}{k:PV->Prop}{a b:PV}(q:(iteV p a b).holds k):(p->k a)/\(¬ p->k b):=by
 cases a<;>cases b<;>first|exact q.elim|skip
 all_goals
  have q':k _:=q
  exact⟨fun h=>by rwa [if_pos h] at q',fun h=>by rwa [if_neg h] at q'⟩
theorem iteR_h {p:Prop}{k:PV->Prop}{a b:Rs}(q:(iteR p a b).holds k):(p->a.holds k)/\(¬ p->b.holds k):=by
 cases a<;>cases b<;>first|exact q.elim|skip
 ·exact iteV_h q
 ·exact⟨(iteV_h (Rs.and_h q).2).1,fun h=>⟨(Rs.and_h q).1 h,(iteV_h (Rs.and_h q).2).2 h⟩⟩
 ·exact⟨fun h=>⟨(Rs.and_h q).1 h,(iteV_h (Rs.and_h q).2).1 h⟩,(iteV_h (Rs.and_h q).2).2⟩
 ·exact⟨fun h=>⟨(Rs.and_h q).1.1 h,(iteV_h (Rs.and_h q).2).1 h⟩,fun h=>⟨(Rs.and_h q).1.2 h,(iteV_h (Rs.and_h q).2).2 h⟩⟩
theorem rIte_h {k:PV->Prop}{t:Bs}{a b:Rs}(q:(rIte t a b).holds k):t.holds fun p=>(p->a.holds k)/\(¬ p->b.holds k):=by
 cases t with
 |bad=>exact q.elim
 |ok p=>exact iteR_h q
 |cond c p=>exact⟨(Rs.and_h q).1,iteR_h (Rs.and_h q).2⟩
noncomputable def rName:Option Value->Rs
 |some v=>.ok (toPV v)
 |none=>.bad
noncomputable def rConst:Const->Rs
 | .int i=>.ok (.int i)
 | .str x=>.ok (.str x)
 | .none=>.ok .none
 | .bool b=>.ok (.bool b)
 |_=>.bad
noncomputable def pNeg:PV->Rs
 | .int a=>.ok (.int (-a))
 |_=>.bad
noncomputable def un1 (f:PV->Rs):Rs->Rs
 | .bad=>.bad
 | .ok a=>f a
 | .cond c a=>(f a).and c
theorem un1_h {f:PV->Rs}{k:PV->Prop}:∀{a:Rs},(un1 f a).holds k->a.holds fun x=>(f x).holds k
 | .ok _,q=>q
 | .cond _ _,q=>Rs.and_h q
noncomputable def un1B (f:PV->Bs):Rs->Bs
 | .bad=>.bad
 | .ok a=>f a
 | .cond c a=>(f a).and c
theorem un1B_h {f:PV->Bs}{k:Prop->Prop}:∀{a:Rs},(un1B f a).holds k->a.holds fun x=>(f x).holds k
 | .ok _,q=>q
 | .cond _ _,q=>Bs.and_h q
noncomputable def pItem:PV->PV->Rs
 | .str x,.int i=>.cond (x.length<=16777216/\ -(x.length:Int)<=i/\i<(x.length:Int)) (.str (Txt.item x i))
 |_,_=>.bad
noncomputable def pSl:PV->Option Int->Option Int->Rs
 | .str x,lo,hi=>.cond (x.length<=16777216) (.str (Txt.slice x lo hi))
 |_,_,_=>.bad
noncomputable def rSl (v:PV):Hs->Hs->Rs
 | .ok a,.ok b=>pSl v a b
 | .ok a,.cond c b=>(pSl v a b).and c
 | .cond c a,.ok b=>(pSl v a b).and c
 | .cond c a,.cond d b=>(pSl v a b).and (c/\d)
 |_,_=>.bad
theorem rSl_h {v:PV}{k:PV->Prop}{a b:Hs}(q:(rSl v a b).holds k):a.holds fun x=>b.holds fun y=>(pSl v x y).holds k:=by
 cases a<;>cases b<;>first|exact q.elim|skip
 ·exact q
 ·exact Rs.and_h q
 ·exact Rs.and_h (r:=pSl _ _ _) q
 ·exact⟨(Rs.and_h q).1.1,(Rs.and_h q).1.2,(Rs.and_h q).2⟩
noncomputable def pBd:PV->Hs
 | .int i=>.ok (some i)
 | .none=>.ok none
 |_=>.bad
noncomputable def bdR (f:PV->Hs):Rs->Hs
 | .bad=>.bad
 | .ok v=>f v
 | .cond c v=>(f v).and c
theorem bdR_h {f:PV->Hs}{k:Option Int->Prop}:∀{a:Rs},(bdR f a).holds k->a.holds fun x=>(f x).holds k
 | .ok _,q=>q
 | .cond _ _,q=>Hs.and_h q
noncomputable def pOrN:PV->PV->Hs
 | .int i,.none=>.ok (if i=0 then none else some i)
 |_,_=>.bad
noncomputable def orN (a b:Rs):Hs:=match b with
 | .ok v=>bdR (fun x=>pOrN x v) a
 |_=>.bad
theorem orN_h {k:Option Int->Prop}{a b:Rs}(q:(orN a b).holds k):∃v,b=.ok v/\a.holds fun x=>(pOrN x v).holds k:=by
 cases b with
 |ok v=>exact⟨v,rfl,bdR_h q⟩
 |bad=>exact q.elim
 |cond c v=>exact q.elim
noncomputable def call1 (id:String):PV->Rs
 | .str x=>if id="len" then .cond (x.length<=16777216) (.int x.length) else if id="ord" then .cond (x.length=1) (.int (x.cps.getD 0 0)) else .bad
 | .int i=>if id="chr" then .cond (0<=i/\i<=1114111) (.str ⟨#[i.toNat]⟩) else .bad
 |_=>.bad
noncomputable def call2 (id:String):PV->PV->Rs
 | .int a,.int b=>if id="min" then .ok (.int (min a b)) else if id="max" then .ok (.int (max a b)) else .bad
 |_,_=>.bad
noncomputable def callB2 (id:String)(x y:PV):List PV->Rs
 | []=>call2 id x y
 |_::_=>.bad
noncomputable def callB1 (id:String)(x:PV):List PV->Rs
 | []=>call1 id x
 |y::r=>callB2 id x y r
noncomputable def callB (id:String):List PV->Rs
 | []=>.bad
 |x::r=>callB1 id x r
noncomputable def seqR:List Rs->(List PV->Rs)->Rs
 | [],f=>f []
 |a::r,f=>un1 (fun v=>seqR r fun vs=>f (v::vs)) a
noncomputable def plainArg (x:Expr):Bool:=@Expr.casesOn (fun e=>Bool) x (fun c b a=>true) (fun c b a=>true) (fun d c b a=>true) (fun c b a=>true) (fun d c b a=>true) (fun d c b a=>true) (fun c b a=>true) (fun c b a=>true) (fun d c b a=>true) (fun d c b a=>true) (fun e d c b a=>true) (fun d c b a=>true) (fun b a=>true) (fun b a=>true) (fun b a=>true) (fun d c b a=>true) (fun d c b a=>true) (fun d c b a=>true) (fun b a=>true) (fun c b a=>true) (fun c b a=>true) (fun c b a=>true) (fun b a=>false) (fun b a=>true) (fun b a=>true) (fun c b a=>true) (fun d c b a=>true)
noncomputable def nmOf (x:Expr):Option Str:=@Expr.casesOn (fun e=>Option Str) x (fun c b a=>none) (fun c b a=>none) (fun d c b a=>none) (fun c b a=>none) (fun d c b a=>none) (fun d c b a=>none) (fun c b a=>none) (fun c b a=>none) (fun d c b a=>none) (fun d c b a=>none) (fun e d c b a=>none) (fun d c b a=>none) (fun b a=>none) (fun b a=>none) (fun b a=>none) (fun d c b a=>none) (fun d c b a=>none) (fun d c b a=>none) (fun b a=>none) (fun c b a=>none) (fun c b a=>none) (fun c b a=>none) (fun b a=>none) (fun b a=>some b) (fun b a=>none) (fun c b a=>none) (fun d c b a=>none)
noncomputable def optG {α β:Type}(r:β)(f:α->β):Option α->β
 |some a=>f a
 |none=>r
set_option genInjectivity false in
set_option genSizeOf false in
inductive EV where
 |name (x:Str)|const (c:Const)|bin (l:Expr) (op:Operator) (r:Expr)|neg (x:Expr)|ite (t b o:Expr)
 |slice (v:Expr) (lo hi:Option Expr)|item (v i:Expr)|nitem (x:Str) (i:Expr)|last (x:Str)|mitem (x:Str) (i j v:Expr)|call (f:Str) (x:Expr) (xs:List Expr)|attr (x a:Str)|bad
noncomputable def unView (x:Expr):UnaryOp->EV
 | .USub=>.neg x
 |_=>.bad
noncomputable def slView (v:Expr)(lo hi:Option Expr):Option Expr->EV
 |none=>.slice v lo hi
 |some _=>.bad
noncomputable def idxOk (x:Expr):Bool:=@Expr.casesOn (fun e=>Bool) x (fun c b a=>false) (fun c b a=>false) (fun d c b a=>true) (fun c b a=>false) (fun d c b a=>false) (fun d c b a=>false) (fun c b a=>false) (fun c b a=>false) (fun d c b a=>false) (fun d c b a=>false) (fun e d c b a=>false) (fun d c b a=>false) (fun b a=>false) (fun b a=>false) (fun b a=>false) (fun d c b a=>false) (fun d c b a=>false) (fun d c b a=>false) (fun b a=>false) (fun c b a=>true) (fun c b a=>false) (fun c b a=>true) (fun b a=>false) (fun b a=>true) (fun b a=>false) (fun c b a=>false) (fun d c b a=>false)
noncomputable def sb2 (i:Expr)(o:Option Str):Option (Str×Expr):=optG none (fun x=>cond (idxOk i) (some (x,i)) none) o
noncomputable def sbOf (x:Expr):Option (Str×Expr):=@Expr.casesOn (fun e=>Option (Str×Expr)) x (fun c b a=>none) (fun c b a=>none) (fun d c b a=>none) (fun c b a=>none) (fun d c b a=>none) (fun d c b a=>none) (fun c b a=>none) (fun c b a=>none) (fun d c b a=>none) (fun d c b a=>none) (fun e d c b a=>none) (fun d c b a=>none) (fun b a=>none) (fun b a=>none) (fun b a=>none) (fun d c b a=>none) (fun d c b a=>none) (fun d c b a=>none) (fun b a=>none) (fun c b a=>none) (fun c b a=>none) (fun c b a=>sb2 b (nmOf c)) (fun b a=>none) (fun b a=>none) (fun b a=>none) (fun c b a=>none) (fun d c b a=>none)
noncomputable def itView (i v:Expr):EV:=optG (optG (.item v i) (fun q=>EV.mitem q.1 q.2 i v) (sbOf v)) (fun x=>EV.nitem x i) (nmOf v)
noncomputable def is1:Const->Bool
 | .int i=>decide (i=1)
 |_=>false
noncomputable def cst1 (x:Expr):Bool:=@Expr.casesOn (fun e=>Bool) x (fun c b a=>false) (fun c b a=>false) (fun d c b a=>false) (fun c b a=>false) (fun d c b a=>false) (fun d c b a=>false) (fun c b a=>false) (fun c b a=>false) (fun d c b a=>false) (fun d c b a=>false) (fun e d c b a=>false) (fun d c b a=>false) (fun b a=>false) (fun b a=>false) (fun b a=>false) (fun d c b a=>false) (fun d c b a=>false) (fun d c b a=>false) (fun b a=>false) (fun c b a=>is1 c) (fun c b a=>false) (fun c b a=>false) (fun b a=>false) (fun b a=>false) (fun b a=>false) (fun c b a=>false) (fun d c b a=>false)
noncomputable def lastV (v i:Expr):UnaryOp->EV
 | .USub=>optG .bad (fun x=>cond (cst1 i) (.last x) .bad) (nmOf v)
 |_=>.bad
noncomputable def subView (v x:Expr):EV:=@Expr.casesOn (fun e=>EV) x (fun c b a=>.bad) (fun c b a=>.bad) (fun d c b a=>itView x v) (fun c b a=>lastV v b c) (fun d c b a=>.bad) (fun d c b a=>.bad) (fun c b a=>.bad) (fun c b a=>.bad) (fun d c b a=>.bad) (fun d c b a=>.bad) (fun e d c b a=>.bad) (fun d c b a=>.bad) (fun b a=>.bad) (fun b a=>.bad) (fun b a=>.bad) (fun d c b a=>.bad) (fun d c b a=>.bad) (fun d c b a=>.bad) (fun b a=>.bad) (fun c b a=>itView x v) (fun c b a=>.bad) (fun c b a=>itView x v) (fun b a=>.bad) (fun b a=>itView x v) (fun b a=>.bad) (fun c b a=>.bad) (fun d c b a=>slView v d c b)
noncomputable def cArgs (x:Str):List Expr->EV
 | []=>.bad
 |y::ys=>if plainArg y&&ys.all plainArg then .call x y ys else .bad
noncomputable def cName (xs:List Expr)(f:Expr):EV:=optG .bad (fun x=>cArgs x xs) (nmOf f)
noncomputable def cView (f:Expr)(xs:List Expr):List Keyword->EV
 | []=>cName xs f
 |_::_=>.bad
noncomputable def atView (a:Str)(v:Expr):EV:=optG .bad (fun x=>EV.attr x a) (nmOf v)
noncomputable def eview (x:Expr):EV:=@Expr.casesOn (fun e=>EV) x (fun c b a=>.bad) (fun c b a=>.bad) (fun d c b a=>.bin d c b) (fun c b a=>unView b c) (fun d c b a=>.bad) (fun d c b a=>.ite d c b) (fun c b a=>.bad) (fun c b a=>.bad) (fun d c b a=>.bad) (fun d c b a=>.bad) (fun e d c b a=>.bad) (fun d c b a=>.bad) (fun b a=>.bad) (fun b a=>.bad) (fun b a=>.bad) (fun d c b a=>.bad) (fun d c b a=>cView d c b) (fun d c b a=>.bad) (fun b a=>.bad) (fun c b a=>.const c) (fun c b a=>atView b c) (fun c b a=>subView c b) (fun b a=>.bad) (fun b a=>.name b) (fun b a=>.bad) (fun c b a=>.bad) (fun d c b a=>.bad)
set_option genInjectivity false in
set_option genSizeOf false in
inductive BV where
 |cmp (l:Expr) (op:CmpOp) (r:Expr)|one (x:Expr)|and (x r:Expr)|or (x r:Expr)|not (x:Expr)|plain|bad
noncomputable def cmp3 (l:Expr)(op:CmpOp)(r:Expr):List Expr->BV
 | []=>if behindInMarks op r then .bad else .cmp l op r
 |_::_=>.bad
noncomputable def cmp2 (l:Expr)(op:CmpOp):List Expr->BV
 | []=>.bad
 |r::rs=>cmp3 l op r rs
noncomputable def cmp1 (l:Expr)(rs:List Expr)(op:CmpOp):List CmpOp->BV
 | []=>cmp2 l op rs
 |_::_=>.bad
noncomputable def cmp0 (l:Expr)(rs:List Expr):List CmpOp->BV
 | []=>.bad
 |op::os=>cmp1 l rs op os
noncomputable def bo1 (op:BoolOp)(p:Pos)(x:Expr):List Expr->BV
 | []=>.one x
 |y::r=>(match op with| .And=>.and x (.BoolOp .And (y::r) p)| .Or=>.or x (.BoolOp .Or (y::r) p))
noncomputable def bo0 (op:BoolOp)(p:Pos):List Expr->BV
 | []=>.bad
 |x::r=>bo1 op p x r
noncomputable def unB (x:Expr):UnaryOp->BV
 | .Not=>.not x
 |_=>.bad
noncomputable def bview (x:Expr):BV:=@Expr.casesOn (fun e=>BV) x (fun c b a=>bo0 c a b) (fun c b a=>.bad) (fun d c b a=>.plain) (fun c b a=>unB b c) (fun d c b a=>.bad) (fun d c b a=>.bad) (fun c b a=>.bad) (fun c b a=>.bad) (fun d c b a=>.bad) (fun d c b a=>.bad) (fun e d c b a=>.bad) (fun d c b a=>.bad) (fun b a=>.bad) (fun b a=>.bad) (fun b a=>.bad) (fun d c b a=>cmp0 d b c) (fun d c b a=>.plain) (fun d c b a=>.bad) (fun b a=>.bad) (fun c b a=>.bad) (fun c b a=>.plain) (fun c b a=>.plain) (fun b a=>.bad) (fun b a=>.plain) (fun b a=>.bad) (fun c b a=>.bad) (fun d c b a=>.bad)
set_option genInjectivity false in
set_option genSizeOf false in
inductive HV where|or (a b:Expr)|plain
noncomputable def hv2 (a b:Expr):List Expr->HV
 | []=>.or a b
 |_::_=>.plain
noncomputable def hv1 (a:Expr):List Expr->HV
 | []=>.plain
 |b::r=>hv2 a b r
noncomputable def hv0:List Expr->HV
 | []=>.plain
 |a::r=>hv1 a r
noncomputable def hvO (xs:List Expr):BoolOp->HV
 | .Or=>hv0 xs
 | .And=>.plain
noncomputable def hview (x:Expr):HV:=@Expr.casesOn (fun e=>HV) x (fun c b a=>hvO b c) (fun c b a=>.plain) (fun d c b a=>.plain) (fun c b a=>.plain) (fun d c b a=>.plain) (fun d c b a=>.plain) (fun c b a=>.plain) (fun c b a=>.plain) (fun d c b a=>.plain) (fun d c b a=>.plain) (fun e d c b a=>.plain) (fun d c b a=>.plain) (fun b a=>.plain) (fun b a=>.plain) (fun b a=>.plain) (fun d c b a=>.plain) (fun d c b a=>.plain) (fun d c b a=>.plain) (fun b a=>.plain) (fun c b a=>.plain) (fun c b a=>.plain) (fun c b a=>.plain) (fun b a=>.plain) (fun b a=>.plain) (fun b a=>.plain) (fun c b a=>.plain) (fun d c b a=>.plain)
set_option genInjectivity false in
set_option genSizeOf false in
inductive SV where|nn (ns:List Int)|tt (xs:List Str)|rr (as:List Addr)|mm (nss:List (List Int))
set_option genInjectivity false in
set_option genSizeOf false in
structure Tb where
 gl:List (Str×Value)
 il:List (Str×List Int):=[]
 ats:List ((Str×Str)×Value):=[]
 fo:List (Str×(List PV->Rs)):=[]
 nm:List (Str×Value):=[]
 sq:List (Str×SV):=[]
 lk:Bool:=true
section
variable (env:Env)(m:Str->Option Value)(tb:Tb)
noncomputable def pNmK (x:Str):Option NameKind->Option Value
 |none=>none
 |some k=>match k with
  | .local=>cond tb.lk (m x) (tb.nm.lookup x)
  | .globalImplicit=>tb.gl.lookup x
  | .cell=>tb.nm.lookup x
  | .free=>none
  | .globalExplicit=>none
noncomputable def pNm (x:Str):Option Value:=cond (x==ofString "__debug__") none (pNmK m tb x (env.kindOf x))
noncomputable def isBv:Value->Option String
 | .builtin id=>some id
 |_=>none
noncomputable def isB:Option Value->Option String
 |some v=>isBv v
 |none=>none
noncomputable def pItemI (ns:List Int):PV->Rs
 | .int k=>.cond (ns.length<=1000000/\0<=k/\k<(ns.length:Int)) (.int (ns.getD k.toNat 0))
 |_=>.bad
noncomputable def pItemS (xs:List Str):PV->Rs
 | .int k=>.cond (xs.length<=1000000/\0<=k/\k<(xs.length:Int)) (.str (xs.getD k.toNat Str.empty))
 |_=>.bad
noncomputable def pItemR (as:List Addr):PV->Rs
 | .int k=>.cond (as.length<=1000000/\0<=k/\k<(as.length:Int)) (.val (.ref (as.getD k.toNat 0)))
 |_=>.bad
noncomputable def pItemQ:SV->PV->Rs
 | .nn ns=>pItemI ns
 | .tt xs=>pItemS xs
 | .rr as=>pItemR as
 | .mm _=>fun _=>.bad
noncomputable def pLast:SV->Rs
 | .nn ns=>.cond (1<=ns.length/\ns.length<=1000000) (.int (ns.getLastD 0))
 |_=>.bad
noncomputable def pItem2I (nss:List (List Int))(a:Int):PV->Rs
 | .int b=>.cond (nss.length<=1000000/\0<=a/\a<(nss.length:Int)/\(nss.getD a.toNat []).length<=1000000/\0<=b/\b<((nss.getD a.toNat []).length:Int)) (.int ((nss.getD a.toNat []).getD b.toNat 0))
 |_=>.bad
noncomputable def pItem2M (nss:List (List Int)):PV->PV->Rs
 | .int a=>pItem2I nss a
 |_=>fun _=>.bad
noncomputable def pItem2:SV->PV->PV->Rs
 | .mm nss=>pItem2M nss
 |_=>fun _ _=>.bad
noncomputable def pSum:SV->Rs
 | .nn ns=>.ok (.int ns.sum)
 |_=>.bad
noncomputable def pSumRow1 (nss:List (List Int)):PV->Rs
 | .int a=>.cond (nss.length<=1000000/\0<=a/\a<(nss.length:Int)) (.int (nss.getD a.toNat []).sum)
 |_=>.bad
noncomputable def pSumRow:SV->PV->Rs
 | .mm nss=>pSumRow1 nss
 |_=>fun _=>.bad
noncomputable def svInts:SV->Option (List Int)
 | .nn ns=>some ns
 |_=>none
noncomputable def svNil:SV->Prop
 | .nn ns=>ns=[]
 | .tt xs=>xs=[]
 | .rr as=>as=[]
 | .mm nss=>nss=[]
noncomputable def pMem (ns:List Int):CmpOp->PV->Bs
 | .In=>(fun x=>match x with| .int a=>.ok (a∈ns)|_=>.bad)
 | .NotIn=>(fun x=>match x with| .int a=>.ok (¬ a∈ns)|_=>.bad)
 |_=>fun _=>.bad
noncomputable def isMem:CmpOp->Bool
 | .In=>true
 | .NotIn=>true
 |_=>false
noncomputable def pNil (p:Prop):CmpOp->Bs
 | .NotEq=>.ok (¬ p)
 |_=>.bad
noncomputable def isNil (x:Expr):Bool:=@Expr.casesOn (fun e=>Bool) x (fun c b a=>false) (fun c b a=>false) (fun d c b a=>false) (fun c b a=>false) (fun d c b a=>false) (fun d c b a=>false) (fun c b a=>false) (fun c b a=>false) (fun d c b a=>false) (fun d c b a=>false) (fun e d c b a=>false) (fun d c b a=>false) (fun b a=>false) (fun b a=>false) (fun b a=>false) (fun d c b a=>false) (fun d c b a=>false) (fun d c b a=>false) (fun b a=>false) (fun c b a=>false) (fun c b a=>false) (fun c b a=>false) (fun b a=>false) (fun b a=>false) (fun b a=>b.isEmpty) (fun c b a=>false) (fun d c b a=>false)
noncomputable def sqNm (tb:Tb)(e:Expr):Option SV:=optG none (fun x=>tb.sq.lookup x) (nmOf e)
noncomputable def memI (tb:Tb)(op:CmpOp)(r:Expr):Option (List Int):=cond (isMem op) (optG none svInts (sqNm tb r)) none
noncomputable def nilI (tb:Tb)(l r:Expr):Option SV:=cond (isNil r) (sqNm tb l) none
noncomputable def sumR (r s:Rs):Bool->Rs
 |true=>s
 |false=>r
noncomputable def rFo:Option (List PV->Rs)->List Rs->Rs
 |some f,r=>seqR r f
 |none,_=>.bad
noncomputable def lenI (tb:Tb)(e:Expr):Option (List Int):=optG none (fun x=>tb.il.lookup x) (nmOf e)
noncomputable def rLen (ns:List Int):Rs:=.cond (ns.length<=16384) (.int ns.length)
noncomputable def lenR1 (r:Rs):Option (List Int)->Rs
 |some ns=>rLen ns
 |none=>r
noncomputable def lenR (r:Rs)(o:Option (List Int)):Bool->Rs
 |true=>lenR1 r o
 |false=>r
noncomputable def sumI (tb:Tb)(V:Expr->Rs)(x:Expr):Rs:=optG (optG .bad (fun q=>optG .bad (fun sv=>un1 (pSumRow sv) (V q.2)) (tb.sq.lookup q.1)) (sbOf x)) (fun y=>optG .bad pSum (tb.sq.lookup y)) (nmOf x)
noncomputable def cmpX (tb:Tb)(V:Expr->Rs)(l:Expr)(op:CmpOp)(r:Expr):Bs:=optG (optG (bin2B (pCmp op) (V l) (V r)) (fun ns=>un1B (pMem ns op) (V l)) (memI tb op r)) (fun sv=>pNil (svNil sv) op) (nilI tb l r)
section
variable (V:Expr->Rs)(B:Expr->Bs)(H:Option Expr->Hs)
noncomputable def pVb:EV->Rs
 | .name x=>rName (pNm env m tb x)
 | .const c=>rConst c
 | .bin l op r=>bin2 (pBin op) (V l) (V r)
 | .neg x=>un1 pNeg (V x)
 | .ite t b o=>rIte (B t) (V b) (V o)
 | .slice v lo hi=>un1 (fun x=>rSl x (H lo) (H hi)) (V v)
 | .item v i=>bin2 pItem (V v) (V i)
 | .nitem x i=>optG (optG (bin2 pItem (rName (pNm env m tb x)) (V i)) (fun sv=>un1 (pItemQ sv) (V i)) (tb.sq.lookup x)) (fun ns=>un1 (pItemI ns) (V i)) (tb.il.lookup x)
 | .last x=>optG .bad pLast (tb.sq.lookup x)
 | .mitem x i j v=>optG (bin2 pItem (V v) (V j)) (fun sv=>bin2 (pItem2 sv) (V i) (V j)) (tb.sq.lookup x)
 | .call f x xs=>optG (rFo (tb.fo.lookup f) (V x::xs.map V)) (fun id=>sumR (lenR (seqR (V x::xs.map V) (callB id)) (lenI tb x) (id=="len"&&xs.isEmpty)) (sumI tb V x) (id=="sum"&&xs.isEmpty)) (isB (pNm env m tb f))
 | .attr x a=>rName (tb.ats.lookup (x,a))
 | .bad=>.bad
noncomputable def pBb (r:Rs):BV->Bs
 | .cmp l op r=>cmpX tb V l op r
 | .one x=>B x
 | .and x r=>andB (B x) (B r)
 | .or x r=>orB (B x) (B r)
 | .not x=>notB (B x)
 | .plain=>truB r
 | .bad=>.bad
noncomputable def pHb (r:Rs):HV->Hs
 | .or a b=>orN (V a) (V b)
 | .plain=>bdR pBd r
end
noncomputable def pHo (V:Expr->Rs):Option Expr->Hs
 |none=>.ok none
 |some e=>pHb V (V e) (hview e)
structure P3 where
 V:Expr->Rs
 B:Expr->Bs
 H:Option Expr->Hs
noncomputable def pA (n:Nat):P3:=Nat.rec ⟨fun _=>.bad,fun _=>.bad,fun _=>.bad⟩ (fun _ p=>⟨fun e=>pVb env m tb p.V p.B p.H (eview e),fun e=>pBb tb p.V p.B (p.V e) (bview e),pHo p.V⟩) n
noncomputable def pV (n:Nat):Expr->Rs:=(pA env m tb n).V
noncomputable def pB (n:Nat):Expr->Bs:=(pA env m tb n).B
noncomputable def pH (n:Nat):Option Expr->Hs:=(pA env m tb n).H
end
section
variable {prog:Program}{w:World}{A:Around}{E:Value->Shared->Prop}{s:Shared}{h₀:Heap}{L a:Addr}{cn:Str}{cs:Scope}{cd:Value}{cl:List (Str×Addr)}{news:Led}{m:Str->Option Value}{gl:List (Str×Value)}
noncomputable def GlOk (prog:Program)(w:World)(h₀:Heap)(gl:List (Str×Value)):Prop:=
 ∀x v,gl.lookup x=some v->∀(A:Around) (E:Value->Shared->Prop) (L:Addr) (env:Env) (m:Str->Option Value) (s:Shared) (Q:Value->Shared->Prop) (pos:Pos),
  env.scope.kind=.function->env.globals=mainGlobals->env.builtins=builtinsNs->env.kindOf x=some .globalImplicit->(x==ofString "__debug__")=false->Fr h₀ L s.heap m->Q v s->wpAny (model prog w) A (eval (.Name x pos) env) Q E s
theorem nameE_K {K:Frag}{p:Program}{loose:List Str}{mean:ExcName->Option Value}{mg mb:Str->Option Value}{env:Env}{x:Str}{v:Value}{pos:Pos}{Q:Value->Shared->Prop}(F:Fr h₀ L s.heap m)(X:K.In h₀)(T:TopRead p loose mg mb h₀)(e:nsIn K mainGlobals x=some (some v))
  (hk:env.scope.kind=.function) (hg:env.globals=mainGlobals) (hx:env.kindOf x=some .globalImplicit) (hd:(x==ofString "__debug__")=false) (h:Q v s):wpAny (model prog w) A (eval (.Name x pos) env) Q E s:=
 Name_function_global hk hx (loadGlobal_global (mg:=mg) (by rw[hg];exact T.g.keeps F.keep) (mg_of X T.g e) h) hd
theorem nameE_B {K:Frag}{p:Program}{loose:List Str}{mean:ExcName->Option Value}{mg mb:Str->Option Value}{env:Env}{x:Str}{v:Value}{pos:Pos}{Q:Value->Shared->Prop}(F:Fr h₀ L s.heap m)(X:K.In h₀)(T:TopRead p loose mg mb h₀)(e:nsIn K mainGlobals x=some none)(hv:bootBuiltins x=some v)(hn:x≠"__name__")
  (hk:env.scope.kind=.function) (hg:env.globals=mainGlobals) (hb:env.builtins=builtinsNs) (hx:env.kindOf x=some .globalImplicit) (hd:(x==ofString "__debug__")=false) (h:Q v s):wpAny (model prog w) A (eval (.Name x pos) env) Q E s:=
 Name_function_global hk hx (loadGlobal_builtin (mg:=mg) (mb:=mb) (by rw[hg];exact T.g.keeps F.keep) (mg_none_of X T.g e) (by rw[hb];exact T.b.keeps F.keep) ((T.builtins x hn).trans hv) h) hd
theorem binop_ok {op:Operator}{x y:PV}{t u:Tok}{Q:Value->Shared->Prop}(q:(pBin op x y).holds fun v=>∀tk t,Q (v.den t) { s with toks:=tk }):
  wpAny (model prog w) A (binaryOp op (x.den t) (y.den u)) Q E s:=by
 cases x<;>cases y<;>try exact q.elim
 case int.int=>
  cases op<;>try exact q.elim
  ·exact add_int (q _ _)
  ·exact sub_int (q _ _)
  ·exact mul_int (q.2 _ _) (IntMulOk.of_left (intBits_le_64 (by have:=q.1;omega) (by have:=q.1;omega)))
  ·exact mod_int' (by have:=q.1;omega) (q.2 _ _)
  ·have hb:=intBits_le_64 (k:=i) (by have:=q.1;omega) (by have:=q.1;omega)
   refine PyProof.Rows.pow_int q.1.2.1 (Int.le_trans (Int.mul_le_mul (Int.ofNat_le.mpr hb) q.1.2.2 q.1.2.1 (by decide)) (by decide)) (q.2 _ _)
  ·exact floordiv_int (by have:=q.1;omega) (q.2 _ _) (.inl (PyProof.noPylong_small (by have:=q.1;omega)))
 case str.int=>
  cases op<;>try exact q.elim
  exact KXi.mul rfl q.1.1 (by have:=q.1;omega) (by have:=q.1;omega) fun t' k _ _=>q.2 _ _
 case str.str=>
  cases op<;>try exact q.elim
  exact SB.add (fun t' k=>q.2 _ _) q.1
theorem iop_ok {op:Operator}{x y:PV}{t u:Tok}{Q:Value->Shared->Prop}(ho:op=.Add∨op=.Sub)(q:(pBin op x y).holds fun v=>∀tk t,Q (v.den t) { s with toks:=tk }):
  wpAny (model prog w) A (inplaceOp op (x.den t) (y.den u)) Q E s:=by
 cases x<;>cases y<;>try exact q.elim
 case int.int=>
  rcases ho with rfl|rfl
  ·exact iadd_int (q _ _)
  ·exact isub_int (q _ _)
 case str.int=>
  rcases ho with rfl|rfl<;>exact q.elim
 case str.str=>
  rcases ho with rfl|rfl
  ·exact SB.iadd (fun t' k=>q.2 _ _) q.1
  ·exact q.elim
theorem cmp_ok {op:CmpOp}{x y:PV}{t u:Tok}{Q:Value->Shared->Prop}(q:(pCmp op x y).holds fun p=>∀b,(b=true↔p)->Q (.bool b) s):
  wpAny (model prog w) A (compareOp op (x.den t) (y.den u)) Q E s:=by
 cases x<;>cases y<;>try exact q.elim
 case int.int=>
  cases op<;>try exact q.elim
  ·exact eq_int (q _ beq_iff_eq)
  ·exact ne_int (q _ bne_iff_ne)
  ·exact lt_int (q _ decide_eq_true_iff)
  ·exact le_int (q _ decide_eq_true_iff)
  ·exact gt_int (q _ decide_eq_true_iff)
  ·exact ge_int (q _ decide_eq_true_iff)
 case str.str=>
  cases op<;>try exact q.elim
  ·exact eq_str (q _ beq_iff_eq)
  ·exact ne_str (q _ bne_iff_ne)
  ·exact in_str (q _ (by rw[Bool.not_eq_true']))
theorem tru_ok {x:PV}{t:Tok}{Q:Bool->Shared->Prop}(q:(pTru x).holds fun p=>∀b tk,(b=true↔p)->Q b { s with toks:=tk }):
  wpAny (model prog w) A (truthy (x.den t)) Q E s:=by
 cases x<;>try exact q.elim
 case int=>exact truthy_int (q _ s.toks bne_iff_ne)
 case str=>
  have:=q.1
  exact SBL.truthy (by omega) (q.2 _ _ (by rw[bne_iff_ne];omega))
 case bool=>exact wpAny_truthy_bool (q b s.toks Iff.rfl)
 case none=>exact truthy_none (q false s.toks (by simp))
theorem let_str (v:Expr)(x:Str)(t:Tok)(r:Value):letTemporaryGo v (.str x t) r=pure ():=by cases v<;>rfl
theorem item_ok {v i:Expr}{x y:PV}{t u:Tok}{Q:Value->Shared->Prop}(hs:∀o j,subscripted i false o j=operate [o,j] (getItem o j))
  (q:(pItem x y).holds fun v=>∀tk t,Q (v.den t) { s with toks:=tk }):wpAny (model prog w) A (subscriptTail v i (x.den t) (y.den u)) Q E s:=by
 cases x<;>cases y<;>try exact q.elim
 case str.int=>
  have:=q.1
  exact item_str (fitsSsize_of (N:=9223372036854775807) (by omega) (by omega) (by omega)) this.2.1 this.2.2 (fun _=>q.2 _ _) (hs _ _) (let_str _ _ _)
theorem call1_ok {id:String}{x:PV}{t:Tok}{Q:Value->Shared->Prop}(q:(call1 id x).holds fun v=>∀tk t,Q (v.den t) { s with toks:=tk }):wpAny (model prog w) A (call (.builtin id) [x.den t]) Q E s:=by
 cases x<;>try exact q.elim
 case str=>
  unfold call1 at q
  dsimp only at q
  split at q
  ·rename id=_=>e;subst e
   have:=q.1
   exact P.len_str (by omega) (q.2 _ _)
  ·split at q
   ·rename id=_=>e;subst e
    exact ord_of_one q.1 (q.2 _ _)
   ·exact q.elim
 case int=>
  unfold call1 at q
  dsimp only at q
  split at q
  ·rename id=_=>e;subst e
   exact chr_of_range q.1.1 q.1.2 (q.2 _ _)
  ·exact q.elim
theorem call2_ok {id:String}{x y:PV}{t u:Tok}{Q:Value->Shared->Prop}(hh:A.handled=none)(F:Fr h₀ L s.heap m)(N:News h₀ L s.heap news)
  (q:(call2 id x y).holds fun v=>∀h' tk t,Fr h₀ L h' m->News h₀ L h' news->Q (v.den t) { s with heap:=h',toks:=tk }):wpAny (model prog w) A (call (.builtin id) [x.den t,y.den u]) Q E s:=by
 cases x<;>cases y<;>try exact q.elim
 case int.int=>
  unfold call2 at q
  dsimp only at q
  split at q
  ·rename id=_=>e;subst e
   refine min_two_N hh F N fun h' tk F' N'=>?_
   rw[mm]
   exact q _ _ _ F' N'
  ·split at q
   ·rename id=_=>e;subst e
    refine max_two_N hh F N fun h' tk F' N'=>?_
    rw[show(if i_1>i then i_1 else i)=max i i_1 by rw[Int.max_def];split<;>split<;>omega]
    exact q _ _ _ F' N'
   ·exact q.elim
noncomputable def PartV:Option Int->Value->Prop
 |none,v=>v=.none
 |some i,v=>∃t,v=.int i t
theorem slice_ok {v:Expr}{lo hi:Option Expr}{p:Pos}{x:PV}{o1 o2:Option Int}{v1 v2:Value}{t:Tok}{Q:Value->Shared->Prop}(F:Fr h₀ L s.heap m)(N:News h₀ L s.heap news)
  (h1:PartV o1 v1) (h2:PartV o2 v2) (q:(pSl x o1 o2).holds fun v=>∀h' tk t,Fr h₀ L h' m->News h₀ L h' news->Q (v.den t) { s with heap:=h',toks:=tk }):
  wpAny (model prog w) A (subscriptTail v (.Slice lo hi none p) (x.den t) (.ref s.heap.objs.size)) Q E { s with heap:=s.heap.push { cls:=.type "slice",data:=.fields #[v1,v2,.none] } }:=by
 cases x with
 |int|bool|none|val=>exact q.elim
 |str x=>
  have hz:x.length<=sizeLine:=q.1
  have ht:∀r,letTemporaryGo v (.str x t) r=pure ():=let_str _ _ _
  cases o1<;>cases o2
  ·cases h1;cases h2
   exact slice_strN_nn F N (fun h' t' k F' N'=>q.2 _ _ _ F' N') rfl (let_str _ _ _) hz
  ·cases h1;obtain⟨_,rfl⟩:=h2
   exact slice_strN_ns F N (fun h' t' k F' N'=>q.2 _ _ _ F' N') rfl (let_str _ _ _) hz
  ·cases h2;obtain⟨_,rfl⟩:=h1
   exact slice_strN_sn F N (fun h' t' k F' N'=>q.2 _ _ _ F' N') rfl (let_str _ _ _) hz
  ·obtain⟨_,rfl⟩:=h1;obtain⟨_,rfl⟩:=h2
   exact slice_strN_ss F N (fun h' t' k F' N'=>q.2 _ _ _ F' N') rfl (let_str _ _ _) hz
inductive VsDen:List PV->List Value->Prop
 |nil:VsDen [] []
 |cons {p:PV} {v:Value} {ps:List PV} {vs:List Value} (h:∃t,v=p.den t) (r:VsDen ps vs):VsDen (p::ps) (v::vs)
theorem callB_ok {id:String}{ps:List PV}{vs:List Value}{Q:Value->Shared->Prop}(hh:A.handled=none)(F:Fr h₀ L s.heap m)(N:News h₀ L s.heap news)(hv:VsDen ps vs)
  (q:(callB id ps).holds fun v=>∀h' tk t,Fr h₀ L h' m->News h₀ L h' news->Q (v.den t) { s with heap:=h',toks:=tk }):wpAny (model prog w) A (call (.builtin id) vs) Q E s:=by
 cases hv with
 |nil=>exact q.elim
 |cons h1 r1=>
  obtain⟨t,rfl⟩:=h1
  cases r1 with
  |nil=>exact call1_ok (Rs.mono (fun v q3 tk3 t3=>q3 s.heap tk3 t3 F N) q)
  |cons h2 r2=>
   obtain⟨u,rfl⟩:=h2
   cases r2 with
   |nil=>exact call2_ok hh F N q
   |cons _ _=>exact q.elim
end
inductive RowsAre (nw:Led):List Value->List (List Int)->Prop
 |nil:RowsAre nw [] []
 |cons {a:Addr} {vs:List Value} {n:Nat} {ns:List Int} {vss:List Value} {nss:List (List Int)} (hm:(a,listOf vs.toArray n)∈nw) (hI:IntsAre vs ns) (r:RowsAre nw vss nss):RowsAre nw (.ref a::vss) (ns::nss)
theorem RowsAre.up {nw nw':Led}(h:∀p∈nw,p∈nw'){vs:List Value}{nss:List (List Int)}(r:RowsAre nw vs nss):RowsAre nw' vs nss:=by
 induction r with
 |nil=>exact .nil
 |cons hm hI _ ih=>exact .cons (h _ hm) hI ih
theorem RowsAre.len {nw:Led}{vs:List Value}{nss:List (List Int)}(r:RowsAre nw vs nss):vs.length=nss.length:=by
 induction r with
 |nil=>rfl
 |cons _ _ _ ih=>exact congrArg (· +1) ih
theorem RowsAre.get {nw:Led}{vs:List Value}{nss:List (List Int)}(r:RowsAre nw vs nss):∀{k:Nat},k<nss.length->∃a ws n,vs[k]? =some (.ref a)/\(a,listOf ws.toArray n)∈nw/\IntsAre ws (nss.getD k []):=by
 induction r with
 |nil=>exact fun h=>absurd h (Nat.not_lt_zero _)
 |cons hm hI _ ih=>
  intro k hk
  cases k with
  |zero=>exact⟨_,_,_,rfl,hm,hI⟩
  |succ k=>exact ih (Nat.lt_of_succ_lt_succ hk)
noncomputable def SvOk (nw:Led)(a:Addr):SV->Prop
 | .nn ns=>∃vs n,(a,listOf vs.toArray n)∈nw/\IntsAre vs ns
 | .tt xs=>∃vs n,(a,listOf vs.toArray n)∈nw/\StrsAre vs xs
 | .rr as=>∃n,(a,listOf (as.map Value.ref).toArray n)∈nw
 | .mm nss=>∃vs n,(a,listOf vs.toArray n)∈nw/\RowsAre nw vs nss
theorem SvOk.up {nw nw':Led}{a:Addr}(h:∀p∈nw,p∈nw'):∀{sv:SV},SvOk nw a sv->SvOk nw' a sv
 | .nn _,⟨vs,n,hm,hI⟩=>⟨vs,n,h _ hm,hI⟩
 | .tt _,⟨vs,n,hm,hI⟩=>⟨vs,n,h _ hm,hI⟩
 | .rr _,⟨n,hm⟩=>⟨n,h _ hm⟩
 | .mm _,⟨vs,n,hm,hI⟩=>⟨vs,n,h _ hm,hI.up h⟩
section
variable {prog:Program}{w:World}{A:Around}{E:Value->Shared->Prop}{s:Shared}{h₀:Heap}{L:Addr}{news:Led}{m:Str->Option Value}
theorem item_at {v i:Expr}{a:Addr}{vs:List Value}{n:Nat}{k:Int}{u:Tok}{x:Value}{Q:Value->Shared->Prop}(N:News h₀ L s.heap news)(hm:(a,listOf vs.toArray n)∈news)(hs:∀o j,subscripted i false o j=operate [o,j] (getItem o j))(h0:0<=k)(hz:k<1000000)(hx:vs[k.toNat]? =some x)(h:Q x s):
  wpAny (model prog w) A (subscriptTail v i (.ref a) (.int k u)) Q E s:=
 tail_any (News.isList N hm).typeIs slot_list_getitem.lookup (wpAny_getItem_list (News.isList N hm) h0 (Int.lt_of_lt_of_le hz (by decide)) (by simpa using hx) h) (hs _ _)
theorem getD_at {α:Type}{l:List α}{k:Int}(d:α)(h0:0<=k)(h1:k<(l.length:Int)):l[k.toNat]? =some (l.getD k.toNat d):=by
 have h:k.toNat<l.length:=by omega
 rw[List.getD_eq_getElem?_getD,List.getElem?_eq_getElem h]
 rfl
theorem getLast_at (ns:List Int)(h:1<=ns.length):ns[ns.length-1]? =some (ns.getLastD 0):=by
 rw[<-List.getLast?_eq_getElem?]
 cases ns with
 |nil=>exact absurd h (by decide)
 |cons a l=>rw[List.getLast?_cons,List.getLastD_cons,List.getLastD_eq_getLast?]
theorem itemQ_ok {v i:Expr}{a:Addr}{sv:SV}{y:PV}{u:Tok}{Q:Value->Shared->Prop}(N:News h₀ L s.heap news)(hS:SvOk news a sv)(hs:∀o j,subscripted i false o j=operate [o,j] (getItem o j))
  (q:(pItemQ sv y).holds fun v=>∀tk t,Q (v.den t) { s with toks:=tk }):wpAny (model prog w) A (subscriptTail v i (.ref a) (y.den u)) Q E s:=by
 cases sv with
 |mm=>exact q.elim
 |nn ns=>
  cases y<;>try exact q.elim
  obtain⟨vs,n,hm,hI⟩:=hS
  obtain⟨t,hx⟩:=hI.get _ _ (getD_at 0 q.1.2.1 q.1.2.2)
  exact item_at N hm hs q.1.2.1 (by have:=q.1;omega) hx (q.2 s.toks t)
 |tt xs=>
  cases y<;>try exact q.elim
  obtain⟨vs,n,hm,hI⟩:=hS
  obtain⟨t,hx⟩:=hI.get _ _ (getD_at Str.empty q.1.2.1 q.1.2.2)
  exact item_at N hm hs q.1.2.1 (by have:=q.1;omega) hx (q.2 s.toks t)
 |rr as=>
  cases y<;>try exact q.elim
  obtain⟨n,hm⟩:=hS
  exact item_at N hm hs q.1.2.1 (by have:=q.1;omega) (by rw[List.getElem?_map,getD_at 0 q.1.2.1 q.1.2.2];rfl) (q.2 s.toks 0)
theorem last_ok {v i:Expr}{p:Pos}{a:Addr}{sv:SV}{u:Tok}{Q:Value->Shared->Prop}(N:News h₀ L s.heap news)(hS:SvOk news a sv)
  (q:(pLast sv).holds fun v=>∀tk t,Q (v.den t) { s with toks:=tk }):wpAny (model prog w) A (subscriptTail v (.UnaryOp .USub i p) (.ref a) (.int (-1) u)) Q E s:=by
 cases sv with
 |nn ns=>
  obtain⟨vs,n,hm,hI⟩:=hS
  have hl:=intsAre_len hI
  obtain⟨t,hx⟩:=hI.get _ _ (getLast_at ns q.1.1)
  have hz:vs.toArray.size=ns.length:=by rw[List.size_toArray,hl]
  refine tail_any (News.isList N hm).typeIs slot_list_getitem.lookup (wpAny_getItem_list_neg (News.isList N hm) (by decide) (by rw[hz];have:=q.1;omega) (by decide) (x:=.int (ns.getLastD 0) t) ?_ (q.2 s.toks t)) rfl
  rw[hz,show(-1+(ns.length:Int)).toNat=ns.length-1 from(congrArg Int.toNat (Int.add_comm _ _)).trans (Int.toNat_sub ns.length 1)]
  simpa using hx
 |_=>exact q.elim
theorem row_ok {v i:Expr}{a:Addr}{sv:SV}{y:PV}{u:Tok}{Q:Value->Shared->Prop}{r:Rs}{k:PV->Prop}(N:News h₀ L s.heap news)(hS:SvOk news a sv)(hs:∀o j,subscripted i false o j=operate [o,j] (getItem o j))
  (q:r.holds fun z=>(pItem2 sv y z).holds k) (h:∀b ws n,(b,listOf ws.toArray n)∈news->(∃ns,IntsAre ws ns/\(r.holds fun z=>(pItemI ns z).holds k))->Q (.ref b) s):wpAny (model prog w) A (subscriptTail v i (.ref a) (y.den u)) Q E s:=by
 have nov:∀{r:Rs},(r.holds fun z=>False)->False:=fun {r} q=>by
  cases r with
  |bad=>exact q
  |ok v=>exact q
  |cond c v=>exact q.2
 cases sv with
 |mm nss=>
  cases y with
  |int x=>
   obtain⟨vs,n,hm,hR⟩:=hS
   have hq:0<=x/\x<(nss.length:Int)/\nss.length<=1000000:=by
    have key:∀z,(pItem2I nss x z).holds k->0<=x/\x<(nss.length:Int)/\nss.length<=1000000:=fun z q=>by
     cases z<;>try exact q.elim
     exact⟨q.1.2.1,q.1.2.2.1,q.1.1⟩
    cases r with
    |bad=>exact q.elim
    |ok v=>exact key _ q
    |cond c v=>exact key _ q.2
   obtain⟨b,ws,n',hg,hb,hI⟩:=hR.get (k:=x.toNat) (by omega)
   refine item_at N hm hs hq.1 (by omega) hg (h b ws n' hb ⟨_,hI,Rs.mono (fun z q=>?_) q⟩)
   replace q:(pItem2I nss x z).holds k:=q
   cases z<;>try exact q.elim
   exact⟨⟨q.1.2.2.2.1,q.1.2.2.2.2.1,q.1.2.2.2.2.2⟩,q.2⟩
  |_=>exact(nov q).elim
 |_=>exact(nov q).elim
theorem row2_ok {v i:Expr}{b:Addr}{ws:List Value}{n:Nat}{ns:List Int}{y:PV}{u:Tok}{Q:Value->Shared->Prop}(N:News h₀ L s.heap news)(hm:(b,listOf ws.toArray n)∈news)(hI:IntsAre ws ns)(hs:∀o j,subscripted i false o j=operate [o,j] (getItem o j))
  (q:(pItemI ns y).holds fun v=>∀tk t,Q (v.den t) { s with toks:=tk }):wpAny (model prog w) A (subscriptTail v i (.ref b) (y.den u)) Q E s:=
 itemQ_ok (sv:=.nn ns) N ⟨ws,n,hm,hI⟩ hs q
theorem sum_row {v i:Expr}{a:Addr}{sv:SV}{y:PV}{u:Tok}{Q:Value->Shared->Prop}{k:PV->Prop}(N:News h₀ L s.heap news)(hS:SvOk news a sv)(hs:∀o j,subscripted i false o j=operate [o,j] (getItem o j))
  (q:(pSumRow sv y).holds k) (h:∀b ws n ns,(b,listOf ws.toArray n)∈news->IntsAre ws ns->k (.int ns.sum)->Q (.ref b) s):wpAny (model prog w) A (subscriptTail v i (.ref a) (y.den u)) Q E s:=by
 cases sv with
 |mm nss=>
  cases y with
  |int x=>
   obtain⟨vs,n,hm,hR⟩:=hS
   have q1:=q.1
   obtain⟨b,ws,n',hg,hb,hI⟩:=hR.get (k:=x.toNat) (by omega)
   exact item_at N hm hs q1.2.1 (by omega) hg (h b ws n' _ hb hI q.2)
  |_=>exact q.elim
 |_=>exact q.elim
theorem nil_ok {a b:Addr}{sv:SV}{n':Nat}{op:CmpOp}{Q:Value->Shared->Prop}(N:News h₀ L s.heap news)(hS:SvOk news a sv)(hb:(b,listOf #[] n')∈news)(hu:A.units<cLine)
  (q:(pNil (svNil sv) op).holds fun p=>∀c,(c=true↔p)->Q (.bool c) s):wpAny (model prog w) A (compareOp op (.ref a) (.ref b)) Q E s:=by
 have key:∀(vs:List Value) (n:Nat) (P:Prop),(a,listOf vs.toArray n)∈news->(vs=[]↔P)->(∀c,(c=true↔¬ P)->Q (.bool c) s)->wpAny (model prog w) A (compareOp .NotEq (.ref a) (.ref b)) Q E s:=fun vs n P hm hP q=>by
  cases vs with
  |nil=>exact cmp_ofNotEq (PySem.SeqAt.RcNeAt.lists (e:=fun _=>true) ⟨_,(N _ hm).1,rfl,n,rfl⟩ ⟨_,(N _ hb).1,rfl,n',rfl⟩ rfl hu (fun j h1 _=>absurd h1 (Nat.not_lt_zero _)) prog w E Q (q false ⟨fun z=>absurd z (by decide),fun z=>absurd (hP.mp rfl) z⟩))
  |cons v vs=>exact cmp_ofNotEq (PySem.SeqAt.RcNeAt.lists_lengths ⟨_,(N _ hm).1,rfl,n,rfl⟩ ⟨_,(N _ hb).1,rfl,n',rfl⟩ (by simp) hu prog w E Q (q true ⟨fun _ z=>absurd (hP.mpr z) (by simp),fun _=>rfl⟩))
 cases op<;>try exact q.elim
 cases sv with
 |nn ns=>
  obtain⟨vs,n,hm,hI⟩:=hS
  exact key vs n _ hm (by rw[<-List.length_eq_zero_iff,intsAre_len hI,List.length_eq_zero_iff];rfl) q
 |tt xs=>
  obtain⟨vs,n,hm,hI⟩:=hS
  exact key vs n _ hm (by rw[<-List.length_eq_zero_iff,hI.length,List.length_eq_zero_iff];rfl) q
 |rr as=>
  obtain⟨n,hm⟩:=hS
  exact key _ n _ hm (by rw[List.map_eq_nil_iff];rfl) q
 |mm nss=>
  obtain⟨vs,n,hm,hI⟩:=hS
  exact key vs n _ hm (by rw[<-List.length_eq_zero_iff,hI.len,List.length_eq_zero_iff];rfl) q
theorem mem_ok {a:Addr}{ns:List Int}{op:CmpOp}{y:PV}{u:Tok}{Q:Value->Shared->Prop}(N:News h₀ L s.heap news)(hS:SvOk news a (.nn ns))
  (q:(pMem ns op y).holds fun p=>∀c,(c=true↔p)->Q (.bool c) s):wpAny (model prog w) A (compareOp op (y.den u) (.ref a)) Q E s:=by
 obtain⟨vs,n,hm,hI⟩:=hS
 have e:∀k:Int,(ns.any (· ==k)=true)↔k∈ns:=fun k=>by simp
 cases op<;>try exact q.elim
 all_goals cases y<;>try exact q.elim
 ·exact in_list_ints (News.isList N hm) hI (q _ (e _))
 ·refine notin_list_ints (News.isList N hm) hI (q _ ?_)
  rw[<-e,Bool.not_eq_true',Bool.not_eq_true]
end
theorem star1 {e:Expr}{r:List Expr}{env:Env}(h:plainArg e=true):starEach (e::r) env=(false,eval e env)::starEach r env:=by
 cases e<;>first|rfl|cases h
theorem starAll {env:Env}{pos:Pos}:∀{r:List Expr},r.all plainArg=true->((backTo pos (starEach r env)).any fun x=>x.1)=false
 | [],_=>rfl
 |e::r,h=>by
  rw[List.all_cons,Bool.and_eq_true] at h
  rw[star1 h.1]
  show(false||((backTo pos (starEach r env)).any fun x=>x.1))=false
  rw[starAll h.2]
  rfl
noncomputable def EV.Spec (e:Expr):EV->Prop
 | .bad=>True
 | .name x=>∃p,e=.Name x p
 | .const c=>∃k p,e=.Constant c k p
 | .bin l op r=>∃p,e=.BinOp l op r p
 | .neg x=>∃p,e=.UnaryOp .USub x p
 | .ite t b o=>∃p,e=.IfExp t b o p
 | .slice v lo hi=>∃p p',e=.Subscript v (.Slice lo hi none p') p
 | .item v i=>(∀o j,subscripted i false o j=operate [o,j] (getItem o j))/\∃p,e=.Subscript v i p
 | .nitem x i=>(∀o j,subscripted i false o j=operate [o,j] (getItem o j))/\∃p' p,e=.Subscript (.Name x p') i p
 | .last x=>∃k p p1 p2 p3,e=.Subscript (.Name x p) (.UnaryOp .USub (.Constant (.int 1) k p1) p2) p3
 | .mitem x i j v=>(∀o z,subscripted i false o z=operate [o,z] (getItem o z))/\(∀o z,subscripted j false o z=operate [o,z] (getItem o z))/\∃p p1 p2,v=.Subscript (.Name x p) i p1/\e=.Subscript v j p2
 | .call f x xs=>(plainArg x=true/\xs.all plainArg=true)/\∃p p',e=.Call (.Name f p) (x::xs) [] p'
 | .attr x a=>∃p p',e=.Attribute (.Name x p) a p'
theorem idx_sub {i:Expr}(h:idxOk i=true):∀o j,subscripted i false o j=operate [o,j] (getItem o j):=by
 cases i<;>first|exact absurd (show false=true from h) (by decide)|exact fun _ _=>rfl
theorem nmOf_spec {v:Expr}{x:Str}(h:nmOf v=some x):∃p,v=.Name x p:=by
 cases v<;>first|(cases h;done)|(cases h;exact⟨_,rfl⟩)
theorem sb2_spec {i:Expr}{o:Option Str}{q:Str×Expr}(h:sb2 i o=some q):idxOk i=true/\q.2=i/\o=some q.1:=by
 cases o with
 |none=>cases h
 |some x=>
  replace h:cond (idxOk i) (some (x,i)) none=some q:=h
  cases hi:idxOk i with
  |false=>rw[hi] at h;cases h
  |true=>rw[hi] at h;cases h;exact⟨rfl,rfl,rfl⟩
theorem sbOf_spec {v:Expr}{q:Str×Expr}(h:sbOf v=some q):idxOk q.2=true/\∃p p1,v=.Subscript (.Name q.1 p) q.2 p1:=by
 cases v with
 |Subscript v i p1=>
  obtain⟨h1,h2,h3⟩:=sb2_spec (show sb2 i (nmOf v)=some q from h)
  obtain⟨p,rfl⟩:=nmOf_spec h3
  rw[h2]
  exact⟨h1,p,p1,rfl⟩
 |_=>cases h
theorem isNil_spec {r:Expr}(h:isNil r=true):∃p,r=.List [] p:=by
 cases r with
 |List es p=>cases es with
  |nil=>exact⟨p,rfl⟩
  |cons=>cases h
 |_=>exact absurd (show false=true from h) (by decide)
theorem svInts_spec {sv:SV}{ns:List Int}(h:svInts sv=some ns):sv=.nn ns:=by
 cases sv with
 |nn=>cases h;rfl
 |_=>cases h
theorem itView_spec {i v:Expr}{p:Pos}(h:∀o j,subscripted i false o j=operate [o,j] (getItem o j)):(itView i v).Spec (.Subscript v i p):=by
 unfold itView
 cases h1:nmOf v with
 |some x=>
  obtain⟨p',rfl⟩:=nmOf_spec h1
  exact⟨h,_,_,rfl⟩
 |none=>
  cases h2:sbOf v with
  |none=>exact⟨h,_,rfl⟩
  |some q=>
   obtain⟨h3,p1,p2,e⟩:=sbOf_spec h2
   exact⟨idx_sub h3,h,p1,p2,p,e,rfl⟩
set_option tactic.hygienic true in
theorem lastV_spec {v i:Expr}{op:UnaryOp}{p p':Pos}:(lastV v i op).Spec (.Subscript v (.UnaryOp op i p') p):=by
 cases op<;>try trivial
 unfold lastV
 cases h1:nmOf v with
 |none=>trivial
 |some x=>
  obtain⟨q,rfl⟩:=nmOf_spec h1
  show EV.Spec _ (cond (cst1 i) (.last x) .bad)
  cases hi:cst1 i with
  |false=>trivial
  |true=>
   cases i<;>try(cases hi;done)
   case Constant c k p1=>
   cases c<;>try(cases hi;done)
   case int z=>
   have:z=1:=of_decide_eq_true hi
   subst this
   exact⟨_,_,_,_,_,rfl⟩
theorem un_spec {op:UnaryOp}{x:Expr}{p:Pos}:(unView x op).Spec (.UnaryOp op x p):=by
 cases op<;>first|trivial|exact⟨_,rfl⟩
theorem at_spec {v:Expr}{a:Str}{p:Pos}:(atView a v).Spec (.Attribute v a p):=by
 cases v<;>first|trivial|exact⟨_,_,rfl⟩
theorem sub_spec {v s:Expr}{p:Pos}:(subView v s).Spec (.Subscript v s p):=by
 cases s with
 |Slice lo hi st p'=>cases st<;>first|trivial|exact⟨_,_,rfl⟩
 |Name|BinOp|Constant|Subscript=>exact itView_spec fun _ _=>rfl
 |UnaryOp=>exact lastV_spec
 |_=>trivial
theorem c_spec {f:Expr}{xs:List Expr}{ks:List Keyword}{p:Pos}:(cView f xs ks).Spec (.Call f xs ks p):=by
 cases ks with
 |cons=>trivial
 |nil=>cases f with
  |Name=>cases xs with
   |nil=>trivial
   |cons y ys=>
    show EV.Spec _ (if plainArg y&&ys.all plainArg then _ else _)
    by_cases h:(plainArg y&&ys.all plainArg)=true
    ·rw[if_pos h];exact⟨Bool.and_eq_true_iff.mp h,_,_,rfl⟩
    ·rw[if_neg h];trivial
  |_=>trivial
theorem eview_spec (e:Expr):(eview e).Spec e:=by
 cases e<;>try trivial
 case Name=>exact⟨_,rfl⟩
 case Constant=>exact⟨_,_,rfl⟩
 case BinOp=>exact⟨_,rfl⟩
 case UnaryOp=>exact un_spec
 case IfExp=>exact⟨_,rfl⟩
 case Attribute=>exact at_spec
 case Subscript=>exact sub_spec
 case Call=>exact c_spec
noncomputable def BV.Spec (e:Expr):BV->Prop
 | .bad=>True
 | .cmp l op r=>behindInMarks op r=false/\∃p,e=.Compare l [op] [r] p
 | .one x=>∃op p,e=.BoolOp op [x] p
 | .and x r=>∃y ys p,e=.BoolOp .And (x::y::ys) p/\r=.BoolOp .And (y::ys) p
 | .or x r=>∃y ys p,e=.BoolOp .Or (x::y::ys) p/\r=.BoolOp .Or (y::ys) p
 | .not x=>∃p,e=.UnaryOp .Not x p
 | .plain=>∀env whole,isTrue e env whole=(do let v<-whole;standAt e.pos;holding [v] (truthy v))
theorem not_spec {op:UnaryOp}{x:Expr}{p:Pos}:(bview (.UnaryOp op x p)).Spec (.UnaryOp op x p):=by
 cases op<;>first|trivial|exact⟨_,rfl⟩
theorem cmp_spec {l:Expr}{ops:List CmpOp}{rs:List Expr}{p:Pos}:(cmp0 l rs ops).Spec (.Compare l ops rs p):=by
 rcases ops with _|⟨op,_|⟨_,_⟩⟩<;>try trivial
 rcases rs with _|⟨r,_|⟨_,_⟩⟩<;>try trivial
 show(if behindInMarks op r then BV.bad else .cmp l op r).Spec _
 by_cases h:behindInMarks op r=true
 ·rw[if_pos h];trivial
 ·rw[if_neg h];exact⟨Bool.not_eq_true _▸h,_,rfl⟩
theorem bo_spec {op:BoolOp}{xs:List Expr}{p:Pos}:(bo0 op p xs).Spec (.BoolOp op xs p):=by
 rcases xs with _|⟨x,_|⟨y,r⟩⟩
 ·trivial
 ·exact⟨_,_,rfl⟩
 ·cases op
  ·exact⟨_,_,_,rfl,rfl⟩
  ·exact⟨_,_,_,rfl,rfl⟩
theorem bview_spec (e:Expr):(bview e).Spec e:=by
 cases e<;>try trivial
 case Compare=>exact cmp_spec
 case BoolOp=>exact bo_spec
 case UnaryOp=>exact not_spec
 all_goals exact fun _ _=>rfl
noncomputable def HV.Spec (e:Expr):HV->Prop
 | .or a b=>∃p,e=.BoolOp .Or [a,b] p
 | .plain=>True
theorem hv_spec {op:BoolOp}{xs:List Expr}{p:Pos}:(hview (.BoolOp op xs p)).Spec (.BoolOp op xs p):=by
 cases op
 ·trivial
 ·rcases xs with _|⟨x,_|⟨y,_|⟨z,r⟩⟩⟩<;>try trivial
  exact⟨_,rfl⟩
theorem hview_spec (e:Expr):(hview e).Spec e:=by
 cases e<;>try trivial
 case BoolOp=>exact hv_spec
theorem lookup_in {κ α:Type}[BEq κ][LawfulBEq κ]{x:κ}{v:α}:∀{l:List (κ×α)},l.lookup x=some v->(x,v)∈l
 | [],h=>by cases h
 |(y,u)::r,h=>by
  rw[List.lookup_cons] at h
  split at h
  ·rename (_==_)=true=>e
   cases h
   rw[eq_of_beq e]
   exact .head _
  ·exact .tail _ (lookup_in h)
set_option genInjectivity false in
set_option genSizeOf false in
structure Cx where
 prog:Program
 w:World
 A:Around
 E:Value->Shared->Prop
 h₀:Heap
 L:Addr
 s:Shared
 gl:List (Str×Value)
 env:Env
 lk:Bool
 Q:Flow->Shared->Prop
 hk:env.scope.kind=.function
 hg:env.globals=mainGlobals
 hb:env.builtins=builtinsNs
 hL:lk=true->env.locals=L
 hh:A.handled=none
 hu:A.units<cLine
 hG:GlOk prog w h₀ gl
noncomputable abbrev Cx.kl (C:Cx)(x:Str):Option NameKind:=cond C.lk (C.env.kindOf x) none
theorem kl_h {C:Cx}{x:Str}(h:C.kl x=some .local):C.env.locals=C.L/\C.env.kindOf x=some .local:=by
 unfold Cx.kl at h
 cases hl:C.lk with
 |true=>rw[hl] at h;exact⟨C.hL hl,h⟩
 |false=>rw[hl] at h;cases h
noncomputable abbrev Cx.sg (C:Cx)(h:Heap)(tk:Nat):Shared:={ C.s with heap:=h,toks:=tk }
noncomputable abbrev Cx.M (C:Cx):Model:=model C.prog C.w
noncomputable def At (C:Cx)(m:Str->Option Value)(nw:Led)(T:Shared->Prop):Prop:=∀h tk,Fr C.h₀ C.L h m->News C.h₀ C.L h nw->T (C.sg h tk)
noncomputable def Ev (C:Cx)(m:Str->Option Value)(nw:Led){α:Type}(t:Sem α)(q:(α->Shared->Prop)->Prop):Prop:=∀Q:α->Shared->Prop,q Q->At C m nw fun s=>wpAny C.M C.A t Q C.E s
noncomputable abbrev VK (C:Cx)(m:Str->Option Value)(nw:Led)(Q:Value->Shared->Prop):PV->Prop:=fun v=>∀t,At C m nw (Q (v.den t))
noncomputable abbrev BK (C:Cx)(m:Str->Option Value)(nw:Led)(Q:Bool->Shared->Prop):Prop->Prop:=fun p=>∀b,(b=true↔p)->At C m nw (Q b)
noncomputable abbrev HK (C:Cx)(m:Str->Option Value)(nw:Led)(Q:Value->Shared->Prop):Option Int->Prop:=fun o=>∀v,PartV o v->At C m nw (Q v)
noncomputable def SeqIn (nw:Led)(a:Addr)(vs:List Value):Prop:=(∃n,(a,listOf vs.toArray n)∈nw)∨(a,({ cls:=.type "tuple",data:=.seq vs.toArray }:Obj))∈nw
noncomputable def FnOk (C:Cx)(f:Str)(r:List PV->Rs):Prop:=
 ∀(m:Str->Option Value) (nw:Led) (x:Expr) (xs:List Expr) (p p':Pos) (Q:Value->Shared->Prop),plainArg x=true->xs.all plainArg=true->
  (At C m nw fun s=>wpAny C.M C.A (spliced (backTo p' (starEach (x::xs) C.env))) (fun vs s'=>∃ps,VsDen ps vs/\(r ps).holds (VK C m nw Q)/\∃h tk,s'=C.sg h tk/\Fr C.h₀ C.L h m/\News C.h₀ C.L h nw) C.E s)->
  At C m nw fun s=>wpAny C.M C.A (eval (.Call (.Name f p) (x::xs) [] p') C.env) Q C.E s
noncomputable def AttrOk (C:Cx)(nw:Led)(d:Addr)(a:Str)(v:Value):Prop:=
 ∀(m:Str->Option Value) (nw':Led),(∀p∈nw,p∈nw')->Ev C m nw' (getAttr (.ref d) a true) fun Q=>At C m nw' (Q v)
noncomputable def NmIs (C:Cx)(m:Str->Option Value)(nw:Led)(x:Str)(v:Value):Prop:=
 (x==ofString "__debug__")=false/\((C.kl x=some .local/\m x=some v)∨(C.env.kindOf x=some .cell/\∃c o,C.env.cells.lookup x=some c/\(c,o)∈nw/\o.data=.cell (some v))∨(C.env.kindOf x=some .local/\∃o m₂,(C.env.locals,o)∈nw/\PyProof.Rows.LCg.NsObj o m₂/\m₂ x=some v))
theorem NmIs.loc {C:Cx}{m:Str->Option Value}{nw:Led}{x:Str}{v:Value}(hm:m x=some v)(hx:C.kl x=some .local)(hd:(x==ofString "__debug__")=false):NmIs C m nw x v:=⟨hd,.inl ⟨hx,hm⟩⟩
theorem NmIs.cell {C:Cx}{m:Str->Option Value}{nw:Led}{x:Str}{v:Value}{c:Addr}{o:Obj}(hc:C.env.cells.lookup x=some c)(hmem:(c,o)∈nw)(ho:o.data=.cell (some v))(hx:C.env.kindOf x=some .cell)(hd:(x==ofString "__debug__")=false):NmIs C m nw x v:=⟨hd,.inr (.inl ⟨hx,c,o,hc,hmem,ho⟩)⟩
theorem NmIs.ev {C:Cx}{m:Str->Option Value}{nw:Led}{x:Str}{v:Value}(h:NmIs C m nw x v)(p:Pos):Ev C m nw (eval (.Name x p) C.env) fun Q=>At C m nw (Q v):=by
 intro Q q h1 tk F N
 obtain⟨hd,⟨hx,hm⟩|⟨hx,c,o,hc,hmem,ho⟩|⟨hx,o,m₂,hmem,ho,hm⟩⟩:=h
 ·obtain⟨hl,hx⟩:=kl_h hx
  exact wpAny_Name (wpAny_loadName_local C.hk hx (by rw[hl];exact F.ns) hm (q h1 tk F N)) hd
 ·exact wpAny_Name (wpAny_loadName_cell C.hk hx hc ⟨o,N.get hmem,ho⟩ (q h1 tk F N)) hd
 ·exact wpAny_Name (wpAny_loadName_local C.hk hx (ho.ns (N.get hmem)) hm (q h1 tk F N)) hd
theorem NmIs.up {C:Cx}{m m':Str->Option Value}{nw nw':Led}{x:Str}{v:Value}(h:NmIs C m nw x v)(hm:m' x=m x)(hs:∀p∈nw,p∈nw'):NmIs C m' nw' x v:=by
 obtain⟨hd,⟨hx,e⟩|⟨hx,c,o,hc,hmem,ho⟩|⟨hx,o,m₂,hmem,ho,e⟩⟩:=h
 ·exact⟨hd,.inl ⟨hx,hm.trans e⟩⟩
 ·exact⟨hd,.inr (.inl ⟨hx,c,o,hc,hs _ hmem,ho⟩)⟩
 ·exact⟨hd,.inr (.inr ⟨hx,o,m₂,hs _ hmem,ho,e⟩)⟩
structure TbOk (C:Cx) (m:Str->Option Value) (nw:Led) (tb:Tb):Prop where
 gl:tb.gl=C.gl
 il:∀x ns,tb.il.lookup x=some ns->∃a vs,NmIs C m nw x (.ref a)/\SeqIn nw a vs/\IntsAre vs ns
 ats:∀x a v,tb.ats.lookup (x,a)=some v->∃d,NmIs C m nw x (.ref d)/\AttrOk C nw d a v
 fo:∀f r,tb.fo.lookup f=some r->FnOk C f r
 nm:∀x v,tb.nm.lookup x=some v->NmIs C m nw x v
 sq:∀x sv,tb.sq.lookup x=some sv->∃a,NmIs C m nw x (.ref a)/\SvOk nw a sv
 lk:tb.lk=true->C.lk=true
theorem tb0 {C:Cx}{m:Str->Option Value}{nw:Led}:TbOk C m nw { gl:=C.gl,lk:=C.lk }:=⟨rfl,fun _ _ h=>(by cases h),fun _ _ _ h=>(by cases h),fun _ _ h=>(by cases h),fun _ _ h=>(by cases h),fun _ _ h=>(by cases h),id⟩
theorem nm_ok {C:Cx}{m:Str->Option Value}{nw:Led}{tb:Tb}{x:Str}{v:Value}(ht:TbOk C m nw tb)(h:pNm C.env m tb x=some v)(p:Pos):Ev C m nw (eval (.Name x p) C.env) fun Q=>At C m nw (Q v):=by
 intro Q q h1 tk F N
 cases hd:(x==ofString "__debug__") with
 |true=>rw[pNm,hd] at h;cases h
 |false=>
  rw[pNm,hd] at h
  cases hx:C.env.kindOf x with
  |none=>rw[hx] at h;cases h
  |some k=>
   rw[hx] at h
   cases k with
   |free|globalExplicit=>cases h
   |cell=>exact(ht.nm _ _ h).ev p Q q h1 tk F N
   | «local» =>
    replace h:cond tb.lk (m x) (tb.nm.lookup x)=some v:=h
    cases hl:tb.lk with
    |true=>
     rw[hl] at h
     exact wpAny_Name (wpAny_loadName_local C.hk hx (by rw[C.hL (ht.lk hl)];exact F.ns) h (q h1 tk F N)) hd
    |false=>
     rw[hl] at h
     exact(ht.nm _ _ h).ev p Q q h1 tk F N
   |globalImplicit=>exact C.hG _ _ (ht.gl▸h) _ _ _ _ _ _ _ _ C.hk C.hg C.hb hx hd F (q h1 tk F N)
theorem isB_ok {o:Option Value}{id:String}(h:isB o=some id):o=some (.builtin id):=by
 cases o with
 |none=>cases h
 |some v=>cases v<;>first|(cases h;done)|(cases h;rfl)
section
variable {C:Cx}{m:Str->Option Value}{nw:Led}{tb:Tb}
theorem name_ok {x:Str}(ht:TbOk C m nw tb)(p:Pos)(Q:Value->Shared->Prop)(q:(rName (pNm C.env m tb x)).holds (VK C m nw Q)):At C m nw fun s=>wpAny C.M C.A (eval (.Name x p) C.env) Q C.E s:=by
 cases hm:pNm C.env m tb x with
 |none=>rw[hm] at q;exact q.elim
 |some v=>
  rw[hm] at q
  obtain⟨t,e⟩:=toPV_den v
  exact nm_ok ht hm p Q (e▸q t)
theorem seq_ok {p:Pos}:∀{xs:List Expr} {n:Nat} (_:∀(e:Expr) (Q:Value->Shared->Prop),(pV C.env m tb n e).holds (VK C m nw Q)->At C m nw fun s=>wpAny C.M C.A (eval e C.env) Q C.E s)
  (_:xs.all plainArg=true) {f:List PV->Rs} {k:PV->Prop} (_:(seqR (xs.map (pV C.env m tb n)) f).holds k),
  Ev C m nw (spliced (backTo p (starEach xs C.env))) fun Q=>∀ps vs,VsDen ps vs->(f ps).holds k->At C m nw (Q vs)
 | [],n,_,_,f,k,q=>fun Q hQ h tk F N=>args_nil (hQ [] [] .nil q h tk F N)
 |e::r,n,ih,hp,f,k,q=>by
  intro Q hQ h tk F N
  rw[List.all_cons,Bool.and_eq_true] at hp
  refine args_cons (ih e _ (Rs.mono (fun v q1 t h1 tk1 F1 N1=>?_) (un1_h q)) h tk F N) (star1 hp.1)
  exact seq_ok (xs:=r) ih hp.2 q1 _ (fun ps vs hv h2=>hQ (v::ps) (v.den t::vs) (.cons ⟨t,rfl⟩ hv) h2) h1 tk1 F1 N1
end
theorem pv_all {C:Cx}{m:Str->Option Value}{nw:Led}{tb:Tb}(ht:TbOk C m nw tb):∀n,
  (∀e (Q:Value->Shared->Prop),(pV C.env m tb n e).holds (VK C m nw Q)->At C m nw fun s=>wpAny C.M C.A (eval e C.env) Q C.E s)/\
  (∀e (Q:Bool->Shared->Prop),(pB C.env m tb n e).holds (BK C m nw Q)->At C m nw fun s=>wpAny C.M C.A (isTrue e C.env (eval e C.env)) Q C.E s)/\
  (∀o (Q:Value->Shared->Prop),(pH C.env m tb n o).holds (HK C m nw Q)->At C m nw fun s=>wpAny C.M C.A (evalPart o C.env) Q C.E s)
 |0=>⟨fun _ _ q=>q.elim,fun _ _ q=>q.elim,fun _ _ q=>q.elim⟩
 |n+1=>by
  obtain⟨ihV,ihB,ihH⟩:=pv_all ht n
  refine⟨fun e Q q=>?_,fun e Q q=>?_,fun o Q q=>?_⟩
  ·replace q:(pVb C.env m tb (pV C.env m tb n) (pB C.env m tb n) (pH C.env m tb n) (eview e)).holds (VK C m nw Q):=q
   have hs:=eview_spec e
   generalize eview e=ev at q hs
   cases ev with
   |bad=>exact q.elim
   |name x=>
    obtain⟨pos,rfl⟩:=hs
    exact name_ok ht pos Q q
   |const c=>
    obtain⟨k,p,rfl⟩:=hs
    intro h tk F N
    cases c<;>try exact q.elim
    ·exact wpAny_Constant_none (q 0 h tk F N)
    ·exact wpAny_Constant_bool (q 0 h tk F N)
    ·exact wpAny_Constant_int (q _ h _ F N)
    ·exact Constant_str (q _ h _ F N)
   |bin l op r=>
    obtain⟨p,rfl⟩:=hs
    intro h tk F N
    refine wpAny_BinOp (ihV l _ (Rs.mono (fun v q1 t1=>?_) (bin2_h q)) h tk F N)
    refine ihV r _ (Rs.mono (fun v2 q2 t2 h2 tk2 F2 N2=>?_) q1)
    exact binop_ok (s:=C.sg h2 tk2) (Rs.mono (fun v q3 tk3 t3=>q3 t3 h2 tk3 F2 N2) q2)
   |neg x=>
    obtain⟨p,rfl⟩:=hs
    intro h tk F N
    refine UnaryOp_ (ihV x _ (Rs.mono (fun v q1 t1 h1 tk1 F1 N1=>?_) (un1_h q)) h tk F N)
    cases v<;>try exact q1.elim
    exact neg_int (q1 _ h1 _ F1 N1)
   |ite t b o=>
    obtain⟨p,rfl⟩:=hs
    intro h tk F N
    refine IfExp_ (ihB t _ (Bs.mono (fun P q1 c hc=>?_) (rIte_h q)) h tk F N)
    cases c with
    |true=>exact ihV b _ (q1.1 (hc.mp rfl))
    |false=>exact ihV o _ (q1.2 fun hp=>Bool.false_ne_true (hc.mpr hp))
   |slice v lo hi=>
    obtain⟨p,p',rfl⟩:=hs
    intro h tk F N
    refine Subscript_ (ihV v _ (Rs.mono (fun x q1 t1 h1 tk1 F1 N1=>?_) (un1_h q)) h tk F N)
    refine wpAny_Slice (ihH lo _ (Hs.mono (fun o1 q2 v1 p1=>?_) (rSl_h q1)) h1 tk1 F1 N1)
    refine ihH hi _ (Hs.mono (fun o2 q3 v2 p2 h3 tk3 F3 N3=>?_) q2)
    exact evalPart_none_step (slice_ok (s:=C.sg h3 tk3) F3 N3 p1 p2 (Rs.mono (fun v q4 h4 tk4 t4 F4 N4=>q4 t4 h4 tk4 F4 N4) q3))
   |item v i=>
    obtain⟨hsub,p,rfl⟩:=hs
    intro h tk F N
    refine Subscript_ (ihV v _ (Rs.mono (fun x q1 t1=>?_) (bin2_h q)) h tk F N)
    refine ihV i _ (Rs.mono (fun y q2 t2 h2 tk2 F2 N2=>?_) q1)
    exact item_ok (s:=C.sg h2 tk2) hsub (Rs.mono (fun v q3 tk3 t3=>q3 t3 h2 tk3 F2 N2) q2)
   |nitem x i=>
    obtain⟨hsub,p',p,rfl⟩:=hs
    intro h tk F N
    replace q:Rs.holds _ (optG _ _ (tb.il.lookup x)):=q
    cases hl:tb.il.lookup x with
    |none=>
     rw[hl] at q
     replace q:Rs.holds _ (optG _ _ (tb.sq.lookup x)):=q
     cases hl2:tb.sq.lookup x with
     |none=>
      rw[hl2] at q
      refine Subscript_ (name_ok ht p' _ (Rs.mono (fun x q1 t1=>?_) (bin2_h q)) h tk F N)
      refine ihV i _ (Rs.mono (fun y q2 t2 h2 tk2 F2 N2=>?_) q1)
      exact item_ok (s:=C.sg h2 tk2) hsub (Rs.mono (fun v q3 tk3 t3=>q3 t3 h2 tk3 F2 N2) q2)
     |some sv=>
      rw[hl2] at q
      obtain⟨a,hm,hS⟩:=ht.sq _ _ hl2
      refine Subscript_ (hm.ev p' _ (ihV i _ (Rs.mono (fun y q2 t2 h2 tk2 F2 N2=>?_) (un1_h q))) h tk F N)
      exact itemQ_ok (s:=C.sg h2 tk2) N2 hS hsub (Rs.mono (fun v q3 tk3 t3=>q3 t3 h2 tk3 F2 N2) q2)
    |some ns=>
     rw[hl] at q
     (refine Uc.ex2 (ht.il _ _ hl) fun a vs=>Uc.an3 fun hm hmem hI=>?_)
     refine Subscript_ (hm.ev p' _ (ihV i _ (Rs.mono (fun y q2 t2 h2 tk2 F2 N2=>?_) (un1_h q))) h tk F N)
     cases y<;>try exact q2.elim
     have q3:=q2.1
     have hk:(ns.length:Int)<=1000000:=Int.ofNat_le.mpr q3.1
     have hz:=Int.lt_of_lt_of_le q3.2.2 (Int.le_trans hk (by decide:(1000000:Int)<=2^63))
     rcases hmem with ⟨n',hmem⟩|hmem
     ·exact item_list_ints (s:=C.sg h2 tk2) (News.isList N2 hmem) hI q3.2.1 q3.2.2 hz (fun t=>q2.2 t h2 tk2 F2 N2) (hsub _ _) fun _=>rfl
     ·exact item_tuple_ints (s:=C.sg h2 tk2) (News.isTup N2 hmem) hI q3.2.1 q3.2.2 hz (fun t=>q2.2 t h2 tk2 F2 N2) (hsub _ _) fun _=>rfl
   |last x=>
    obtain⟨k,p,p1,p2,p3,rfl⟩:=hs
    intro h tk F N
    replace q:Rs.holds _ (optG _ _ (tb.sq.lookup x)):=q
    cases hl:tb.sq.lookup x with
    |none=>rw[hl] at q;exact q.elim
    |some sv=>
     rw[hl] at q
     obtain⟨a,hm,hS⟩:=ht.sq _ _ hl
     refine Subscript_ (hm.ev p _ (fun h1 tk1 F1 N1=>UnaryOp_ (wpAny_Constant_int (neg_int ?_))) h tk F N)
     exact last_ok (s:=C.sg h1 _) N1 hS (Rs.mono (fun v q3 tk3 t3=>q3 t3 h1 tk3 F1 N1) q)
   |mitem x i j v=>
    obtain⟨hs1,hs2,p,p1,p2,rfl,rfl⟩:=hs
    intro h tk F N
    replace q:Rs.holds _ (optG _ _ (tb.sq.lookup x)):=q
    cases hl:tb.sq.lookup x with
    |none=>
     rw[hl] at q
     refine Subscript_ (ihV _ _ (Rs.mono (fun x q1 t1=>?_) (bin2_h q)) h tk F N)
     refine ihV j _ (Rs.mono (fun y q2 t2 h2 tk2 F2 N2=>?_) q1)
     exact item_ok (s:=C.sg h2 tk2) hs2 (Rs.mono (fun v q3 tk3 t3=>q3 t3 h2 tk3 F2 N2) q2)
    |some sv=>
     rw[hl] at q
     obtain⟨a,hm,hS⟩:=ht.sq _ _ hl
     refine Subscript_ (Subscript_ (hm.ev p _ (ihV i _ (Rs.mono (fun y q1 t1 h1 tk1 F1 N1=>?_) (bin2_h q))) h tk F N))
     refine row_ok (s:=C.sg h1 tk1) N1 hS hs1 q1 fun b ws n hb hq=>?_
     obtain⟨ns,hI,q2⟩:=hq
     refine ihV j _ (Rs.mono (fun y q3 t3 h3 tk3 F3 N3=>?_) q2) h1 tk1 F1 N1
     exact row2_ok (s:=C.sg h3 tk3) N3 hb hI hs2 (Rs.mono (fun v q4 tk4 t4=>q4 t4 h3 tk4 F3 N3) q3)
   |call f x xs=>
    obtain⟨w30q,p,p',rfl⟩:=hs;(refine Uc.ah2 w30q fun px pxs=>?_;clear w30q)
    intro h tk F N
    replace q:Rs.holds _ (optG _ _ (isB (pNm C.env m tb f))):=q
    cases hc:isB (pNm C.env m tb f) with
    |some id=>
     rw[hc] at q
     have hn:=isB_ok hc
     have go:(seqR ((x::xs).map (pV C.env m tb n)) (callB id)).holds (VK C m nw Q)->wpAny C.M C.A (eval (.Call (.Name f p) (x::xs) [] p') C.env) Q C.E (C.sg h tk):=fun q=>by
      refine Call_ (nm_ok ht hn p _ (fun h1 tk1 F1 N1=>?_) h tk F N)
      refine PyProof.Rows.callWith_builtin1 ?_ (star1 px) (starAll pxs)
      refine seq_ok (xs:=x::xs) ihV (by rw[List.all_cons,px,pxs];rfl) q _ (fun ps vs hv h2 h3 tk3 F3 N3=>?_) h1 tk1 F1 N1
      exact callB_ok (s:=C.sg h3 tk3) C.hh F3 N3 hv (Rs.mono (fun v q4 h4 tk4 t4 F4 N4=>q4 t4 h4 tk4 F4 N4) h2)
     replace q:(sumR (lenR _ (lenI tb x) (id=="len"&&xs.isEmpty)) (sumI tb (pV C.env m tb n) x) (id=="sum"&&xs.isEmpty)).holds _:=q
     cases hsu:(id=="sum"&&xs.isEmpty) with
     |true=>
      rw[hsu] at q
      replace q:Rs.holds _ (sumI tb (pV C.env m tb n) x):=q
      obtain⟨hid,hxs⟩:=Bool.and_eq_true_iff.mp hsu
      have hid:=eq_of_beq hid
      subst hid
      cases xs with
      |cons _ _=>cases hxs
      |nil=>
       refine Call_ (nm_ok ht hn p _ (fun h0 tk0 F0 N0=>?_) h tk F N)
       refine PyProof.Rows.callWith_builtin1 (args_cons ?_ (star1 px)) (star1 px) rfl
       unfold sumI at q
       cases hnx:nmOf x with
       |some y=>
        rw[hnx] at q
        replace q:Rs.holds _ (optG .bad pSum (tb.sq.lookup y)):=q
        obtain⟨pz,rfl⟩:=nmOf_spec hnx
        cases hl:tb.sq.lookup y with
        |none=>rw[hl] at q;exact q.elim
        |some sv=>
         rw[hl] at q
         obtain⟨a,hm,hS⟩:=ht.sq _ _ hl
         cases sv<;>try exact q.elim
         obtain⟨vs,n',hmem,hI⟩:=hS
         exact hm.ev _ _ (fun h1 tk1 F1 N1=>args_nil (PyProof.Rows.LSm.sum_ints (s:=C.sg h1 tk1) F1 N1 C.hh (News.isList N1 hmem) hI fun h2 tk2 t2 F2 N2=>q t2 h2 tk2 F2 N2)) h0 tk0 F0 N0
       |none=>
        rw[hnx] at q
        replace q:Rs.holds _ (optG .bad (fun q=>optG .bad (fun sv=>un1 (pSumRow sv) (pV C.env m tb n q.2)) (tb.sq.lookup q.1)) (sbOf x)):=q
        cases hsb:sbOf x with
        |none=>rw[hsb] at q;exact q.elim
        |some z=>
         rw[hsb] at q
         replace q:Rs.holds _ (optG .bad (fun sv=>un1 (pSumRow sv) (pV C.env m tb n z.2)) (tb.sq.lookup z.1)):=q
         obtain⟨hix,p1,p2,rfl⟩:=sbOf_spec hsb
         cases hl:tb.sq.lookup z.1 with
         |none=>rw[hl] at q;exact q.elim
         |some sv=>
          rw[hl] at q
          obtain⟨a,hm,hS⟩:=ht.sq _ _ hl
          refine Subscript_ (hm.ev p1 _ (ihV z.2 _ (Rs.mono (fun y q2 t2 h2 tk2 F2 N2=>?_) (un1_h q))) h0 tk0 F0 N0)
          exact sum_row (s:=C.sg h2 tk2) N2 hS (idx_sub hix) q2 fun b ws nb ns hb hI hk=>args_nil (PyProof.Rows.LSm.sum_ints (s:=C.sg h2 tk2) F2 N2 C.hh (News.isList N2 hb) hI fun h3 tk3 t3 F3 N3=>hk t3 h3 tk3 F3 N3)
     |false=>
     rw[hsu] at q
     replace q:(lenR _ (lenI tb x) (id=="len"&&xs.isEmpty)).holds _:=q
     cases he:(id=="len"&&xs.isEmpty) with
     |false=>rw[he] at q;exact go q
     |true=>
     rw[he] at q
     cases hl:lenI tb x with
     |none=>rw[hl] at q;exact go q
     |some ns=>
      rw[hl] at q
      obtain⟨hid,hxs⟩:=Bool.and_eq_true_iff.mp he
      have hid:=eq_of_beq hid
      subst hid
      cases xs with
      |cons _ _=>cases hxs
      |nil=>
       cases x<;>try(cases hl;done)
       (refine Uc.ex2 (ht.il _ _ hl) fun a vs=>Uc.an3 fun hm hmem hI=>?_)
       refine Call_ (nm_ok ht hn p _ (fun h0 tk0 F0 N0=>?_) h tk F N)
       refine PyProof.Rows.callWith_builtin1 (args_cons (hm.ev _ _ (fun h1 tk1 F1 N1=>args_nil ?_) h0 tk0 F0 N0) rfl) rfl rfl
       have hb:ns.length<=16384:=q.1
       rcases hmem with ⟨n',hmem⟩|hmem
       ·exact len_ints_fit (s:=C.sg h1 tk1) (News.isList N1 hmem) hI (Nat.lt_of_le_of_lt hb (by decide)) (q.2 _ h1 _ F1 N1)
       ·exact kun_lenT (s:=C.sg h1 tk1) (News.isTup N1 hmem) (by rw[List.size_toArray,intsAre_len hI]) (Int.ofNat_le.mpr hb) (q.2 _ h1 _ F1 N1)
    |none=>
     rw[hc] at q
     replace q:(rFo (tb.fo.lookup f) _).holds _:=q
     cases hf:tb.fo.lookup f with
     |none=>rw[hf] at q;exact q.elim
     |some r=>
      rw[hf] at q
      refine ht.fo f r hf m nw x xs p p' Q px pxs (fun h1 tk1 F1 N1=>?_) h tk F N
      refine seq_ok (xs:=x::xs) ihV (by rw[List.all_cons,px,pxs];rfl) q _ (fun ps vs hv h2 h3 tk3 F3 N3=>?_) h1 tk1 F1 N1
      exact⟨ps,hv,h2,h3,tk3,rfl,F3,N3⟩
   |attr x a=>
    obtain⟨p,p',rfl⟩:=hs
    replace q:(rName (tb.ats.lookup (x,a))).holds _:=q
    cases hl:tb.ats.lookup (x,a) with
    |none=>rw[hl] at q;exact q.elim
    |some v=>
     rw[hl] at q
     obtain⟨t,e⟩:=toPV_den v
     obtain⟨d,hm,hA⟩:=ht.ats x a v hl
     intro h tk F N
     exact Attribute_Name_ (hm.ev p _ (hA m nw (fun _ z=>z) Q (e▸q t)) h tk F N)
  ·replace q:(pBb tb (pV C.env m tb n) (pB C.env m tb n) (pV C.env m tb n e) (bview e)).holds (BK C m nw Q):=q
   have hs:=bview_spec e
   generalize bview e=ev at q hs
   cases ev with
   |bad=>exact q.elim
   |cmp l op r=>
    obtain⟨hm,p,rfl⟩:=hs
    intro h tk F N
    replace q:Bs.holds _ (optG (optG _ _ (memI tb op r)) _ (nilI tb l r)):=q
    cases hni:nilI tb l r with
    |some sv=>
     rw[hni] at q
     replace q:(pNil (svNil sv) op).holds (BK C m nw Q):=q
     unfold nilI at hni
     cases hnr:isNil r with
     |false=>rw[hnr] at hni;cases hni
     |true=>
      rw[hnr] at hni
      replace hni:optG none (fun x=>tb.sq.lookup x) (nmOf l)=some sv:=hni
      cases hnx:nmOf l with
      |none=>rw[hnx] at hni;cases hni
      |some x=>
       rw[hnx] at hni
       obtain⟨pz,rfl⟩:=nmOf_spec hnx
       obtain⟨a,hnm,hS⟩:=ht.sq _ _ hni
       obtain⟨pl,rfl⟩:=isNil_spec hnr
       ·refine wpAny_isTrue_Compare1 (hnm.ev _ _ (fun h1 tk1 F1 N1=>?_) h tk F N) hm
        refine List_ (args_nil (newList_N (s:=C.sg h1 tk1) F1 N1 (fun h2 F2 N2=>?_) (by decide)))
        refine nil_ok (s:=C.sg h2 tk1) N2 (hS.up fun _ z=>.tail _ z) (.head _) C.hu (Bs.mono (fun P q3 b hb=>wpAny_truthy_bool (q3 b hb h2 tk1 F2 (News.sub N2 fun _ z=>.tail _ z))) q)
    |none=>
    rw[hni] at q
    replace q:Bs.holds (BK C m nw Q) (optG (bin2B (pCmp op) (pV C.env m tb n l) (pV C.env m tb n r)) (fun ns=>un1B (pMem ns op) (pV C.env m tb n l)) (memI tb op r)):=q
    cases hmi:memI tb op r with
    |some ns=>
     rw[hmi] at q
     replace q:(un1B (pMem ns op) (pV C.env m tb n l)).holds (BK C m nw Q):=q
     unfold memI at hmi
     cases hop:isMem op with
     |false=>rw[hop] at hmi;cases hmi
     |true=>
      rw[hop] at hmi
      replace hmi:optG none svInts (optG none (fun x=>tb.sq.lookup x) (nmOf r))=some ns:=hmi
      cases hnx:nmOf r with
      |none=>rw[hnx] at hmi;cases hmi
      |some x=>
       rw[hnx] at hmi
       replace hmi:optG none svInts (tb.sq.lookup x)=some ns:=hmi
       obtain⟨pz,rfl⟩:=nmOf_spec hnx
       cases hl:tb.sq.lookup x with
       |none=>rw[hl] at hmi;cases hmi
       |some sv=>
        rw[hl] at hmi
        obtain rfl:=svInts_spec hmi
        obtain⟨a,hnm,hS⟩:=ht.sq _ _ hl
        refine wpAny_isTrue_Compare1 (ihV l _ (Rs.mono (fun v q1 t1=>?_) (un1B_h q)) h tk F N) hm
        refine hnm.ev _ _ fun h2 tk2 F2 N2=>?_
        exact mem_ok (s:=C.sg h2 tk2) N2 hS (Bs.mono (fun P q3 b hb=>wpAny_truthy_bool (q3 b hb h2 tk2 F2 N2)) q1)
    |none=>
    rw[hmi] at q
    replace q:(bin2B (pCmp op) (pV C.env m tb n l) (pV C.env m tb n r)).holds (BK C m nw Q):=q
    refine wpAny_isTrue_Compare1 (ihV l _ (Rs.mono (fun v q1 t1=>?_) (bin2B_h q)) h tk F N) hm
    refine ihV r _ (Rs.mono (fun v2 q2 t2 h2 tk2 F2 N2=>?_) q1)
    exact cmp_ok (s:=C.sg h2 tk2) (Bs.mono (fun P q3 b hb=>wpAny_truthy_bool (q3 b hb h2 tk2 F2 N2)) q2)
   |one x=>
    obtain⟨op,p,rfl⟩:=hs
    intro h tk F N
    cases op with
    |And=>
     refine isTrue_and (ihB x _ (Bs.mono (fun P q1 c hc h1 tk1 F1 N1=>?_) q) h tk F N)
     cases c with
     |true=>exact isTrue_and_nil (q1 true hc h1 tk1 F1 N1)
     |false=>exact q1 false hc h1 tk1 F1 N1
    |Or=>
     refine isTrue_or (ihB x _ (Bs.mono (fun P q1 c hc h1 tk1 F1 N1=>?_) q) h tk F N)
     cases c with
     |true=>exact q1 true hc h1 tk1 F1 N1
     |false=>exact isTrue_or_nil (q1 false hc h1 tk1 F1 N1)
   |and x r=>
    (refine Uc.ex3 hs fun y ys p=>Uc.an2 fun e1q e2q=>?_;clear hs;subst e1q;subst e2q)
    intro h tk F N
    refine isTrue_and (ihB x _ (Bs.mono (fun P q1 c hc=>?_) (andB_h q)) h tk F N)
    cases c with
    |true=>exact ihB (.BoolOp .And (y::ys) p) _ (Bs.mono (fun P2 q2 b hb=>q2 b (hb.trans ⟨fun z=>⟨hc.mp rfl,z⟩,And.right⟩)) (q1.1 (hc.mp rfl)))
    |false=>
     obtain⟨P2,q2⟩:=q1.2
     exact q2 false ⟨fun z=>absurd z (by decide),fun z=>absurd (hc.mpr z.1) (by decide)⟩
   |or x r=>
    (refine Uc.ex3 hs fun y ys p=>Uc.an2 fun e1q e2q=>?_;clear hs;subst e1q;subst e2q)
    intro h tk F N
    refine isTrue_or (ihB x _ (Bs.mono (fun P q1 c hc=>?_) (orB_h q)) h tk F N)
    cases c with
    |false=>exact ihB (.BoolOp .Or (y::ys) p) _ (Bs.mono (fun P2 q2 b hb=>q2 b (hb.trans ⟨.inr,fun z=>z.resolve_left fun zp=>Bool.false_ne_true (hc.mpr zp)⟩)) (q1.1 fun zp=>Bool.false_ne_true (hc.mpr zp)))
    |true=>
     obtain⟨P2,q2⟩:=q1.2
     exact q2 true ⟨fun _=>.inl (hc.mp rfl),fun _=>rfl⟩
   |not x=>
    obtain⟨p,rfl⟩:=hs
    intro h tk F N
    refine isTrue_not (ihB x _ (Bs.mono (fun P q1 c hc=>?_) (notB_h q)) h tk F N)
    refine q1 _ ?_
    cases c with
    |true=>exact⟨fun z=>absurd z (by decide),fun z=>absurd (hc.mp rfl) z⟩
    |false=>exact⟨fun _ z=>Bool.false_ne_true (hc.mpr z),fun _=>rfl⟩
   |plain=>
    intro h tk F N
    refine isTrue_plain (ihV e _ (Rs.mono (fun v q1 t1 h1 tk1 F1 N1=>?_) (truB_h q)) h tk F N) (hs _ _)
    exact tru_ok (s:=C.sg h1 tk1) (Bs.mono (fun P q3 b tk3 hb=>q3 b hb h1 tk3 F1 N1) q1)
  ·intro h tk F N
   cases o with
   |none=>
    exact evalPart_none_step (q _ rfl h tk F N)
   |some e=>
    replace q:(pHb (pV C.env m tb n) (pV C.env m tb n e) (hview e)).holds (HK C m nw Q):=q
    have hs:=hview_spec e
    generalize hview e=ev at q hs
    cases ev with
    |or x y=>
     obtain⟨p,rfl⟩:=hs
     obtain⟨v2,e2,q'⟩:=orN_h q
     refine evalPart_some_step (BoolOp_or (ihV x _ (Rs.mono (fun v q1 t1 h1 tk1 F1 N1=>?_) q') h tk F N))
     cases v<;>cases v2<;>try exact q1.elim
     refine truthy_int ?_
     by_cases h0:i=0
     ·subst h0
      rw[if_neg (by decide)]
      exact BoolOp_one (ihV y _ (by rw[e2];exact fun t=>q1 _ rfl) h1 tk1 F1 N1)
     ·rw[if_pos (by simpa using h0)]
      exact q1 _ (by rw[if_neg h0];exact⟨_,rfl⟩) h1 tk1 F1 N1
    |plain=>
     refine evalPart_some_step (ihV e _ (Rs.mono (fun v q1 t1=>?_) (bdR_h q)) h tk F N)
     cases v<;>try exact q1.elim
     ·exact q1 _ ⟨_,rfl⟩
     ·exact q1 _ rfl
noncomputable def Cx.post (C:Cx):List (List Stmt)->Flow->Shared->Prop
 | []=>C.Q
 |r::ks=>stP (model C.prog C.w) C.A r C.env (C.post ks) C.E
noncomputable abbrev Cx.pV (C:Cx)(m:Str->Option Value)(tb:Tb)(e:Expr):Rs:=Uc.pV C.env m tb 30 e
noncomputable abbrev Cx.pH (C:Cx)(m:Str->Option Value)(tb:Tb)(e:Option Expr):Hs:=Uc.pH C.env m tb 30 e
noncomputable abbrev Cx.pB (C:Cx)(m:Str->Option Value)(tb:Tb)(e:Expr):Bs:=Uc.pB C.env m tb 30 e
noncomputable def J (C:Cx)(m:Str->Option Value)(nw:Led)(st:List Stmt)(ks:List (List Stmt)):Prop:=
 At C m nw fun s=>wpAny C.M C.A (execs st C.env) (C.post ks) C.E s
theorem isP {C:Cx}{ks:List (List Stmt)}{f:Flow}{s:Shared}(h:C.post ks f s):C.post ks f s:=h
theorem Cx.post_out {C:Cx}{f:Flow}{s':Shared}(hf:f≠.next)(q:C.Q f s'):∀ks,C.post ks f s'
 | []=>q
 |r::ks=>by
  have:=Cx.post_out hf q ks
  show stP _ _ _ _ _ _ f s'
  cases f with
  |next=>exact absurd rfl hf
  |ret v=>exact this
  |brk=>exact this
  |cont=>exact this
theorem Cx.post_ret {C:Cx}{v:Value}{s':Shared}(q:C.Q (.ret v) s')(ks:List (List Stmt)):C.post ks (.ret v) s':=C.post_out (by intro x;cases x) q ks
section
variable {C:Cx}{m:Str->Option Value}{nw:Led}{tb:Tb}{rest:List Stmt}{ks:List (List Stmt)}{pos:Pos}
theorem J.start {prog:Program}{w:World}{A:Around}{E:Value->Shared->Prop}{h₀:Heap}{L:Addr}{s:Shared}{gl:List (Str×Value)}{cn:Str}{cs:Scope}{a:Addr}{cd:Value}{cl:List (Str×Addr)}
  {Q:Flow->Shared->Prop} {st:List Stmt} (hG:GlOk prog w h₀ gl) (F:Fr h₀ L s.heap m) (N:News h₀ L s.heap nw) (hk:cs.kind=.function) (hh:A.handled=none) (hu:A.units<cLine)
  (h:let C:Cx:=⟨prog,w,A,E,h₀,L,s,gl,envX cn cs L a cd cl,true,Q,hk,rfl,rfl,fun _=>rfl,hh,hu,hG⟩;J C m nw st []):wpAny (model prog w) A (execs st (envX cn cs L a cd cl)) Q E s:=
 h s.heap s.toks F N
theorem J.gen {st:List Stmt}(l:Nms)(hk:Has m l)(h:∀u,J C (fm u l) nw st ks):J C m nw st ks:=by
 have:=h m
 rwa [fm_eq hk] at this
theorem J.nil {r:List Stmt}(h:J C m nw r ks):J C m nw [] (r::ks):=fun h' tk F N=>wpAny_execs_nil (h h' tk F N)
theorem J.done (q:At C m nw (C.Q .next)):J C m nw [] []:=fun h tk F N=>wpAny_execs_nil (q h tk F N)
theorem J.step {st:Stmt}(h:At C m nw fun s=>wpAny C.M C.A (exec st C.env) (C.post (rest::ks)) C.E s):J C m nw (st::rest) ks:=
 fun h' tk F N=>wpAny_execs_cons (h h' tk F N)
theorem J.next {h:Heap}{tk:Nat}(q:J C m nw rest ks)(F:Fr C.h₀ C.L h m)(N:News C.h₀ C.L h nw):C.post (rest::ks) .next (C.sg h tk):=q h tk F N
section
variable {e:Expr}{v:PV}{c:Prop}{x:Str}{p:Pos}
theorem ev_ok {Q:Value->Shared->Prop}(ht:TbOk C m nw tb)(hp:C.pV m tb e=.ok v)(q:∀t,At C m nw (Q (v.den t))):At C m nw fun s=>wpAny C.M C.A (eval e C.env) Q C.E s:=
 (pv_all ht 30).1 e Q (by show(C.pV m tb e).holds _;rw[hp];exact q)
theorem ev_c {Q:Value->Shared->Prop}(ht:TbOk C m nw tb)(hp:C.pV m tb e=.cond c v)(hc:c)(q:∀t,At C m nw (Q (v.den t))):At C m nw fun s=>wpAny C.M C.A (eval e C.env) Q C.E s:=
 (pv_all ht 30).1 e Q (by show(C.pV m tb e).holds _;rw[hp];exact⟨hc,q⟩)
theorem J.ret (ht:TbOk C m nw tb)(hp:C.pV m tb e=.ok v)(q:∀t,At C m nw (C.Q (.ret (v.den t)))):J C m nw (.Return (some e) pos::rest) ks:=
 J.step fun h tk F N=>wpAny_Return_some (ev_ok ht hp (fun t h' tk' F' N'=>C.post_ret (q t h' tk' F' N') _) h tk F N)
theorem J.ret_c (ht:TbOk C m nw tb)(hp:C.pV m tb e=.cond c v)(hc:c)(q:∀t,At C m nw (C.Q (.ret (v.den t)))):J C m nw (.Return (some e) pos::rest) ks:=
 J.step fun h tk F N=>wpAny_Return_some (ev_c ht hp hc (fun t h' tk' F' N'=>C.post_ret (q t h' tk' F' N') _) h tk F N)
theorem J.brk (q:At C m nw (C.Q .brk)):J C m nw (.Break pos::rest) ks:=
 J.step fun h tk F N=>wpAny_Break (C.post_out (by intro x;cases x) (q h tk F N) _)
noncomputable abbrev up (m:Str->Option Value)(x:Str)(v:Value):Str->Option Value:=fun y=>if y=x then some v else m y
theorem storeE_L {v:Value}{s:Shared}{Q:Unit->Shared->Prop}(F:Fr C.h₀ C.L s.heap m)(N:News C.h₀ C.L s.heap nw)
  (h:∀h',Fr C.h₀ C.L h' (fun y=>if y=x then some v else m y)->News C.h₀ C.L h' nw->Q () { s with heap:=h',toks:=s.toks+1 })
  (hk:C.env.scope.kind=.function) (hx:C.kl x=some .local):wpAny C.M C.A (storeName C.env x v) Q C.E s:=by
 obtain⟨hl,hx2⟩:=kl_h hx
 refine wpAny_storeName_local hx2 (by rw[hl];exact F.ns) (fun h' hn hs=>?_) (by rw[hk];rfl)
 rw[hl] at hn hs
 exact h h' (F.set hn hs) (N.set hs)
theorem J.store {v:Value}{h:Heap}{tk:Nat}(hx:C.kl x=some .local)(F:Fr C.h₀ C.L h m)(N:News C.h₀ C.L h nw)(q:J C (up m x v) nw rest ks):
  wpAny C.M C.A (storeName C.env x v) (fun _=>C.post (rest::ks) .next) C.E (C.sg h tk):=
 storeE_L (s:=C.sg h tk) F N (fun h' F' N'=>q h' _ F' N') C.hk hx
theorem J.asg (ht:TbOk C m nw tb)(hp:C.pV m tb e=.ok v)(hx:C.kl x=some .local)(hs:swapsWith e (some (.Name x p)) pos.line C.env=pure false)
  (q:∀t,J C (up m x (v.den t)) nw rest ks):J C m nw (.Assign [.Name x p] e pos::rest) ks:=
 J.step fun h tk F N=>wpAny_Assign_Name (ev_ok ht hp (fun t h' tk' F' N'=>J.store (tk:=tk') hx F' N' (q t)) h tk F N) hs
theorem J.asg_c (ht:TbOk C m nw tb)(hp:C.pV m tb e=.cond c v)(hx:C.kl x=some .local)(hs:swapsWith e (some (.Name x p)) pos.line C.env=pure false)
  (hc:c) (q:∀t,J C (up m x (v.den t)) nw rest ks):J C m nw (.Assign [.Name x p] e pos::rest) ks:=
 J.step fun h tk F N=>wpAny_Assign_Name (ev_c ht hp hc (fun t h' tk' F' N'=>J.store (tk:=tk') hx F' N' (q t)) h tk F N) hs
theorem J.asgD {x':Str}{p':Pos}(ht:TbOk C m nw tb)(hp:(C.pV m tb e).holds fun v=>∀t,J C (up (up m x (v.den t)) x' (v.den t)) nw rest ks)(hx:C.kl x=some .local)(hx':C.kl x'=some .local):
  J C m nw (.Assign [.Name x p,.Name x' p'] e pos::rest) ks:=by
 refine J.step fun h tk F N=>wpAny_Assign_two ((pv_all ht 30).1 e _ (Rs.mono (fun v q t h1 tk1 F1 N1=>?_) hp) h tk F N)
 refine assign_Name (storeE_L (s:=C.sg h1 tk1) F1 N1 (fun h2 F2 N2=>?_) C.hk hx)
 exact assign_Name (storeE_L (s:=C.sg h2 (tk1+1)) F2 N2 (fun h3 F3 N3=>q t h3 _ F3 N3) C.hk hx')
end
section
variable {t:Expr}{b o:List Stmt}{p c:Prop}
theorem ite_go (ht:TbOk C m nw tb)(h:(C.pB m tb t).holds fun p=>(p->J C m nw b (rest::ks))/\(¬ p->J C m nw o (rest::ks))):J C m nw (.If t b o pos::rest) ks:=by
 refine J.step fun h0 tk F N=>wpAny_If ((pv_all ht 30).2.1 t _ (Bs.mono (fun P q c hc h' tk' F' N'=>?_) h) h0 tk F N)
 cases c with
 |true=>rw[if_pos rfl];exact q.1 (hc.mp rfl) h' tk' F' N'
 |false=>rw[if_neg (by decide)];exact q.2 (fun z=>Bool.false_ne_true (hc.mpr z)) h' tk' F' N'
theorem J.ite (ht:TbOk C m nw tb)(hp:C.pB m tb t=.ok p)(h1:p->J C m nw b (rest::ks))(h2:¬ p->J C m nw o (rest::ks)):J C m nw (.If t b o pos::rest) ks:=ite_go ht (by rw[hp];exact⟨h1,h2⟩)
theorem J.ite_c (ht:TbOk C m nw tb)(hp:C.pB m tb t=.cond c p)(hc:c)(h1:p->J C m nw b (rest::ks))(h2:¬ p->J C m nw o (rest::ks)):J C m nw (.If t b o pos::rest) ks:=ite_go ht (by rw[hp];exact⟨hc,h1,h2⟩)
end
noncomputable def augR (op:Operator)(m:Str->Option Value)(x:Str)(r:Rs):Rs:=match m x with
 |some v=>(match op with
  | .Add=>un1 (fun y=>pBin .Add (toPV v) y) r
  | .Sub=>un1 (fun y=>pBin .Sub (toPV v) y) r
  |_=>.bad)
 |none=>.bad
theorem aug_all {op:Operator}{x:Str}{e:Expr}{p:Pos}(ht:TbOk C m nw tb)(hx:C.kl x=some .local)(h:(augR op m x (C.pV m tb e)).holds fun v=>∀t,J C (up m x (v.den t)) nw rest ks):
  J C m nw (.AugAssign (.Name x p) op e pos::rest) ks:=by
 refine J.step fun h0 tk F N=>wpAny_AugAssign_Name ?_
 unfold augR at h
 cases hm:m x with
 |none=>rw[hm] at h;exact h.elim
 |some v=>
  rw[hm] at h
  obtain⟨t,et⟩:=toPV_den v
  have ho:op=.Add∨op=.Sub:=by cases op<;>first|exact .inl rfl|exact .inr rfl|exact h.elim
  have h':(un1 (fun y=>pBin op (toPV v) y) (C.pV m tb e)).holds fun v=>∀t,J C (up m x (v.den t)) nw rest ks:=by rcases ho with rfl|rfl<;>exact h
  obtain⟨hl,hx2⟩:=kl_h hx
  refine wpAny_loadName_local C.hk hx2 (by rw[hl];exact F.ns) hm ?_
  refine(pv_all ht 30).1 e _ (Rs.mono (fun y q1 t1 h1 tk1 F1 N1=>?_) (un1_h h')) _ _ F N
  rw[<-et]
  exact iop_ok (s:=C.sg h1 tk1) ho (Rs.mono (fun r q2 tk2 t2=>J.store (tk:=tk2) hx F1 N1 (q2 t2)) q1)
theorem J.aug {op:Operator}{x:Str}{e:Expr}{p:Pos}{v:PV}(ht:TbOk C m nw tb)(hp:augR op m x (C.pV m tb e)=.ok v)(hx:C.kl x=some .local)(q:∀t,J C (up m x (v.den t)) nw rest ks):
  J C m nw (.AugAssign (.Name x p) op e pos::rest) ks:=aug_all ht hx (by rw[hp];exact q)
theorem fr_l {h₀ h:Heap}{l l':Addr}{m:Str->Option Value}(e:l=l')(F:Fr h₀ l h m):Fr h₀ l' h m:=e▸F
theorem news_l {h₀ h:Heap}{l l':Addr}{nw:Led}(e:l=l')(N:News h₀ l h nw):News h₀ l' h nw:=e▸N
theorem turn_l {h₀:Heap}{l l':Addr}{σ:Type}{led:σ->Led}{ps:σ->Nms}{R:σ->Prop}{c:σ}{I:Addr}{o:Obj}{s s':Shared}{Q:Flow->Shared->Prop}{f:Flow}(e:l=l')(q:Turn h₀ l led ps R c I o s Q f s'):Turn h₀ l' led ps R c I o s Q f s':=e▸q
noncomputable abbrev Cx.setQ (C:Cx)(Q:Flow->Shared->Prop):Cx:={ C with Q:=Q }
noncomputable def whQ {σ:Type}(C:Cx)(led:σ->Led)(ps:σ->Nms)(P:σ->Prop)(μ:σ->Nat)(c:σ)(f:Flow)(s':Shared):Prop:=
 f=.next/\∃c' m' h' tk',s'=C.sg h' tk'/\Fr C.h₀ C.L h' m'/\News C.h₀ C.L h' (led c')/\Has m' (ps c')/\P c'/\μ c'<μ c
theorem J.turn {σ:Type}{led:σ->Led}{ps:σ->Nms}{P:σ->Prop}{μ:σ->Nat}{c:σ}(c':σ)(hk:Has m (ps c'))(hp:P c')(hm:μ c'<μ c)(hs:∀p∈led c',p∈nw):J (C.setQ (whQ C led ps P μ c)) m nw [] []:=
 J.done fun h tk F N=>⟨rfl,c',m,h,tk,rfl,F,News.sub N hs,hk,hp,hm⟩
theorem J.while {σ:Type}{test:Expr}{body:List Stmt}(led:σ->Led)(ps:σ->Nms)(P:σ->Prop)(μ:σ->Nat)(c₀:σ)(tb:σ->Tb)(ht:∀c u,P c->TbOk C (fm u (ps c)) (led c) (tb c))(hE:PassesOwn C.M C.A C.env C.E)(hk:Has m (ps c₀))(hp:P c₀)
  (turn:∀(c:σ) (u:Str->Option Value),P c->(C.pB (fm u (ps c)) (tb c) test).holds fun p=>(p->let C':=C.setQ (whQ C led ps P μ c);J C' (fm u (ps c)) (led c) body [])/\(¬ p->J C (fm u (ps c)) (led c) rest ks))
  (hn:∀p∈led c₀,p∈nw):
  J C m nw (.While test body [] pos::rest) ks:=by
 refine J.step fun h tk F N=>?_
 refine While_inv (s:=C.sg h tk) (L:=C.L) (fun n m nx=>∃c:σ,nx=led c/\μ c=n/\Has m (ps c)/\P c) F (News.sub N hn) ⟨c₀,rfl,rfl,hk,hp⟩ ?_ hE
 intro n m₁ nx h1 tk1 F₁ N₁ w31q;(refine Uc.ex1 w31q fun c=>Uc.an4 fun e1q e2q hk1 hp1=>?_;clear w31q;subst e1q;subst e2q)
 have T:=turn c m₁ hp1
 have ht':=ht c m₁ hp1
 rw[fm_eq hk1] at T ht'
 refine(pv_all ht' 30).2.1 test _ (Bs.mono (fun p q b hb h2 tk2 F2 N2=>?_) T) h1 tk1 F₁ N₁
 cases b with
 |false=>
  rw[if_neg (by decide)]
  exact q.2 (fun z=>Bool.false_ne_true (hb.mpr z)) h2 tk2 F2 N2
 |true=>
  rw[if_pos rfl]
  refine wpAny_mono (q.1 (hb.mp rfl) h2 tk2 F2 N2) (fun f s₃ r=>?_) fun _ _ x=>x
  (refine Uc.ah2 r fun e1q q0q=>Uc.ex4 q0q fun c' m' h' tk'=>Uc.an6 fun e2q F' N' hk' hp' hm'=>?_;clear r q0q;subst e1q;subst e2q)
  exact⟨rfl,h',tk',m',led c',μ c',rfl,F',N',hm',c',rfl,rfl,hk',hp'⟩
theorem Bs.holds_c {r:Bs}{c p:Prop}{k:Prop->Prop}(h:r=.cond c p)(hc:c)(hk:k p):r.holds k:=by rw[h];exact⟨hc,hk⟩
theorem Bs.holds_ok {r:Bs}{p:Prop}{k:Prop->Prop}(h:r=.ok p)(hk:k p):r.holds k:=by rw[h];exact hk
theorem Rs.holds_c {r:Rs}{c:Prop}{v:PV}{k:PV->Prop}(h:r=.cond c v)(hc:c)(hk:k v):r.holds k:=by rw[h];exact⟨hc,hk⟩
theorem Rs.holds_ok {r:Rs}{v:PV}{k:PV->Prop}(h:r=.ok v)(hk:k v):r.holds k:=by rw[h];exact hk
theorem J.asg2 {x y:Str}{e1 e2:Expr}{px py:Pos}{k k2:Nat}{tp tp2:Pos}(ht:TbOk C m nw tb)(h1:plainArg e1=true)(h2:plainArg e2=true)
  (hw:swappedStores [.Tuple [.Name x px,.Name y py] k tp] (.Tuple [e1,e2] k2 tp2) C.env=pure (some [x,y])) (hx:C.kl x=some .local) (hy:C.kl y=some .local)
  (h:(C.pV m tb e1).holds fun v1=>(C.pV m tb e2).holds fun v2=>∀t u,J C (up (up m y (v2.den u)) x (v1.den t)) nw rest ks):
  J C m nw (.Assign [.Tuple [.Name x px,.Name y py] k tp] (.Tuple [e1,e2] k2 tp2) pos::rest) ks:=by
 refine J.step fun h0 tk F N=>Assign_Tuple_swapped ?_ rfl hw
 refine Tuple_ (args_cons ?_ (star1 h1))
 refine(pv_all ht 30).1 e1 _ (Rs.mono (fun v1 q1 t h3 tk3 F3 N3=>?_) h) _ _ F N
 refine args_cons ?_ (star1 h2)
 refine(pv_all ht 30).1 e2 _ (Rs.mono (fun v2 q2 u h4 tk4 F4 N4=>?_) q1) _ _ F3 N3
 refine args_nil (newTuple_N (s:=C.sg h4 tk4) F4 N4 fun h5 F5 N5=>?_)
 refine unpackItemsN_ (s:=C.sg h5 tk4) F5 N5 (News.isTup N5 (.head _)) C.hh rfl fun h6 F6 N6=>?_
 have N7:News C.h₀ C.L h6 nw:=News.sub N6 fun p hp=>.tail _ hp
 refine assignInOrder_cons (bindName_ (storeE_L (s:=C.sg h6 tk4) F6 N7 (fun h8 F8 N8=>?_) C.hk hy))
 refine assignInOrder_cons (bindName_ (storeE_L (s:=C.sg h8 (tk4+1)) F8 N8 (fun h9 F9 N9=>?_) C.hk hx))
 exact assignInOrder_nil (q2 t u h9 _ F9 N9)
theorem J.tn {σ:Type}{led:σ->Led}{ps:σ->Nms}{R:σ->Prop}{c:σ}{I:Addr}{o:Obj}{Q:Flow->Shared->Prop}(c':σ)(hk:Has m (ps c'))(hp:R c')
  (ha:∀p∈led c',p.1∈(led c).map (·.1)∨isIt p.2=false) (hs:∀p∈led c'++[(I,o)],p∈nw):
  J (C.setQ (Turn C.h₀ C.L led ps R c I o C.s Q)) m nw [] []:=J.done fun _ _ F N=>Turn.next (Q:=Q) c' F N hs ha hk hp
noncomputable def RangeIs (C:Cx)(m:Str->Option Value)(nw:Led)(it:Expr)(a b c:Int):Prop:=
 ∀Q:Value->Shared->Prop,(∀r t u v,At C m nw fun s=>IsRange s.heap r a b c t u v->Q (.ref r) s)->At C m nw fun s=>wpAny C.M C.A (eval it C.env) Q C.E s
theorem range1 {x:Str}{p p':Pos}{e:Expr}{b:Int}(ht:TbOk C m nw tb)(hx:pNm C.env m tb x=some (.type "range"))(he:plainArg e=true)(hb:(C.pV m tb e).holds fun v=>v=.int b):RangeIs C m nw (.Call (.Name x p) [e] [] p') 0 b 1:=by
 intro Q q h tk F N
 refine Call_ (nm_ok ht hx p _ (fun h0 tk0 F0 N0=>Pv.callWith_type1 (args_cons ?_ (star1 he)) (star1 he)) h tk F N)
 refine(pv_all ht 30).1 e _ (Rs.mono (fun v e1 t h1 tk1 F1 N1=>?_) hb) _ _ F0 N0
 subst e1
 exact args_nil (range1_rows (s:=C.sg h1 tk1) F1 N1 fun h2 tk2 t1 u1 v1 hr F2 N2 _=>q _ _ _ _ h2 tk2 F2 N2 hr)
theorem range2 {x:Str}{p p':Pos}{e e':Expr}{a b:Int}(ht:TbOk C m nw tb)(hx:pNm C.env m tb x=some (.type "range"))(he:plainArg e=true)(he':plainArg e'=true)(ha:(C.pV m tb e).holds fun v=>v=.int a)(hb:(C.pV m tb e').holds fun v=>v=.int b):
  RangeIs C m nw (.Call (.Name x p) [e,e'] [] p') a b 1:=by
 intro Q q h tk F N
 refine Call_ (nm_ok ht hx p _ (fun h0 tk0 F0 N0=>Pv.callWith_type1 (args_cons ?_ (star1 he)) (star1 he) (by rw[star1 he'];rfl)) h tk F N)
 refine(pv_all ht 30).1 e _ (Rs.mono (fun v e1 t h1 tk1 F1 N1=>?_) ha) _ _ F0 N0
 subst e1
 refine args_cons ?_ (star1 he')
 refine(pv_all ht 30).1 e' _ (Rs.mono (fun v e2 t3 h3 tk3 F3 N3=>?_) hb) _ _ F1 N1
 subst e2
 exact args_nil (range2_rows (s:=C.sg h3 tk3) F3 N3 fun h2 tk2 t1 u1 v1 hr F2 N2 _=>q _ _ _ _ h2 tk2 F2 N2 hr)
theorem range3 {x:Str}{p p':Pos}{e e' e3:Expr}{a b c:Int}(ht:TbOk C m nw tb)(hx:pNm C.env m tb x=some (.type "range"))(he:plainArg e=true)(he':plainArg e'=true)(he3:plainArg e3=true)(hc0:1<=c.natAbs/\c.natAbs<=1000000)
  (ha:(C.pV m tb e).holds fun v=>v=.int a) (hb:(C.pV m tb e').holds fun v=>v=.int b) (hc:(C.pV m tb e3).holds fun v=>v=.int c):RangeIs C m nw (.Call (.Name x p) [e,e',e3] [] p') a b c:=by
 intro Q q h tk F N
 refine Call_ (nm_ok ht hx p _ (fun h0 tk0 F0 N0=>Pv.callWith_type1 (args_cons ?_ (star1 he)) (star1 he) (by rw[star1 he',star1 he3];rfl)) h tk F N)
 refine(pv_all ht 30).1 e _ (Rs.mono (fun v e1 t h1 tk1 F1 N1=>?_) ha) _ _ F0 N0
 subst e1
 refine args_cons ?_ (star1 he')
 refine(pv_all ht 30).1 e' _ (Rs.mono (fun v e2 t3 h3 tk3 F3 N3=>?_) hb) _ _ F1 N1
 subst e2
 refine args_cons ?_ (star1 he3)
 refine(pv_all ht 30).1 e3 _ (Rs.mono (fun v e4 t5 h5 tk5 F5 N5=>?_) hc) _ _ F3 N3
 subst e4
 exact args_nil (range3_rows (s:=C.sg h5 tk5) F5 N5 (by omega) (fun h2 tk2 t1 u1 v1 hr F2 N2 _=>q _ _ _ _ h2 tk2 F2 N2 hr) (.inl (PyProof.noPylong_small (by omega))))
theorem forR {σ:Type}{x:Str}{px:Pos}{it:Expr}{body:List Stmt}{a b c:Int}(P:Flow->Shared->Prop)(n:Nat)(led:σ->Led)(ps:σ->Nms)(R:Nat->σ->Prop)(c₀:σ)(hit:RangeIs C m nw it a b c)(hsm:Builtin.Range.small a b c=true)(hn:Builtin.Range.rangeSize a b c=(n:Int))
  (hE:PassesOwn C.M C.A C.env C.E) (hx:C.kl x=some .local) (hs:∀y,foldedSetIterable it C.env y=pure y) (hk:Has m (ps c₀)) (hR:R 0 c₀)
  (turn:∀i t (c':σ) (u:Str->Option Value) I o,i<n->R i c'->(∀p∈led c',p.1≠I)->isIt o=true->let C':=C.setQ (Turn C.h₀ C.L led ps (R (i+1)) c' I o C.s P);J C' (up (fm u (ps c')) x (.int (a+(i:Int)*c) t)) (led c'++[(I,o)]) body [])
  (done:∀(c':σ) (u:Str->Option Value),R n c'->At C (fm u (ps c')) (led c') (P .next)) (hl:∀p∈led c₀,p∈nw):At C m nw fun s=>wpAny C.M C.A (exec (.For (.Name x px) it body [] pos) C.env) P C.E s:=by
 refine fun h tk F N=>For_invV C.h₀ (kl_h hx).2 (by rw[C.hk];rfl) ?_ hs hE
 refine hit _ (fun r t u v h1 tk1 F1 N1 hr=>?_) h tk F N
 refine iter_range (s:=C.sg h1 tk1) led ps R c₀ C.hh hr hsm hn (fr_l (kl_h hx).1.symm F1) (news_l (kl_h hx).1.symm (News.sub N1 hl)) hk hR (fun i t' c' u' h' tk' I o hi hR' hne hit' F' N' Z hZ=>?_) fun c' u' h' tk' hR' F' N'=>done c' u' hR' h' tk' (fr_l (kl_h hx).1 F') (news_l (kl_h hx).1 N')
 exact wpAny_mono (turn i t' c' u' I o hi hR' hne hit' h' tk' (fr_l (kl_h hx).1 F') (news_l (kl_h hx).1 N')) (fun f s' q=>hZ f s' (turn_l (kl_h hx).1.symm q)) fun _ _ e=>e
theorem J.forR {σ:Type}{x:Str}{px:Pos}{it:Expr}{body:List Stmt}{a b c:Int}(n:Nat)(led:σ->Led)(ps:σ->Nms)(R:Nat->σ->Prop)(c₀:σ)(hit:RangeIs C m nw it a b c)(hsm:Builtin.Range.small a b c=true)(hn:Builtin.Range.rangeSize a b c=(n:Int))
  (hE:PassesOwn C.M C.A C.env C.E) (hx:C.kl x=some .local) (hs:∀y,foldedSetIterable it C.env y=pure y) (hk:Has m (ps c₀)) (hR:R 0 c₀)
  (turn:∀i t (c':σ) (u:Str->Option Value) I o,i<n->R i c'->(∀p∈led c',p.1≠I)->isIt o=true->let C':=C.setQ (Turn C.h₀ C.L led ps (R (i+1)) c' I o C.s (C.post (rest::ks)));J C' (up (fm u (ps c')) x (.int (a+(i:Int)*c) t)) (led c'++[(I,o)]) body [])
  (done:∀(c':σ) (u:Str->Option Value),R n c'->J C (fm u (ps c')) (led c') rest ks) (hl:∀p∈led c₀,p∈nw):J C m nw (.For (.Name x px) it body [] pos::rest) ks:=
 J.step (Uc.forR _ n led ps R c₀ hit hsm hn hE hx hs hk hR turn done hl)
theorem J.forS {σ:Type}{x:Str}{px:Pos}{it:Expr}{body:List Stmt}{y:Str}(led:σ->Led)(ps:σ->Nms)(R:Nat->σ->Prop)(c₀:σ)(ht:TbOk C m nw tb)(hit:(C.pV m tb it).holds fun v=>v=.str y)
  (hE:PassesOwn C.M C.A C.env C.E) (hx:C.kl x=some .local) (hs:∀y,foldedSetIterable it C.env y=pure y) (hk:Has m (ps c₀)) (hR:R 0 c₀)
  (turn:∀i k t (c':σ) (u:Str->Option Value) I o,y.cps[i]? =some k->R i c'->(∀p∈led c',p.1≠I)->isIt o=true->let C':=C.setQ (Turn C.h₀ C.L led ps (R (i+1)) c' I o C.s (C.post (rest::ks)));J C' (up (fm u (ps c')) x (.str ⟨#[k]⟩ t)) (led c'++[(I,o)]) body [])
  (done:∀(c':σ) (u:Str->Option Value),R y.cps.size c'->J C (fm u (ps c')) (led c') rest ks) (hl:∀p∈led c₀,p∈nw):J C m nw (.For (.Name x px) it body [] pos::rest) ks:=by
 refine J.step fun h tk F N=>For_invV C.h₀ (kl_h hx).2 (by rw[C.hk];rfl) ?_ hs hE
 refine(pv_all ht 30).1 it _ (Rs.mono (fun v e1 t h1 tk1 F1 N1=>?_) hit) _ _ F N
 subst e1
 refine iter_str (s:=C.sg h1 tk1) led ps R c₀ C.hh (fr_l (kl_h hx).1.symm F1) (news_l (kl_h hx).1.symm (News.sub N1 hl)) hk hR (fun i k t' c' u' h' tk' I o hi hR' hne hit' F' N' Z hZ=>?_) fun c' u' h' tk' hR' F' N'=>done c' u' hR' h' tk' (fr_l (kl_h hx).1 F') (news_l (kl_h hx).1 N')
 exact wpAny_mono (turn i k t' c' u' I o hi hR' hne hit' h' tk' (fr_l (kl_h hx).1 F') (news_l (kl_h hx).1 N')) (fun f s' q=>hZ f s' (turn_l (kl_h hx).1.symm q)) fun _ _ e=>e
theorem TbOk.up {x:Str}{v:Value}(ht:TbOk C m nw tb)(h:((tb.il.all fun p=>decide (p.1≠x))&&(tb.ats.all fun p=>decide (p.1.1≠x))&&(tb.nm.all fun p=>decide (p.1≠x))&&(tb.sq.all fun p=>decide (p.1≠x)))=true:=by rfl):TbOk C (Uc.up m x v) nw tb:=by
 obtain⟨h123,h4⟩:=Bool.and_eq_true_iff.mp h
 obtain⟨h12,h3⟩:=Bool.and_eq_true_iff.mp h123
 obtain⟨h1,h2⟩:=Bool.and_eq_true_iff.mp h12
 refine⟨ht.gl,fun y ns hl=>?_,fun y a u hl=>?_,ht.fo,fun y u hl=>?_,fun y sv hl=>?_,ht.lk⟩
 ·obtain⟨a,vs,hm,r⟩:=ht.il y ns hl
  have:y≠x:=of_decide_eq_true (List.all_eq_true.mp h1 (y,ns) (lookup_in hl))
  exact⟨a,vs,hm.up (if_neg this) fun _ z=>z,r⟩
 ·obtain⟨d,hm,r⟩:=ht.ats y a u hl
  have:y≠x:=of_decide_eq_true (List.all_eq_true.mp h2 ((y,a),u) (lookup_in hl))
  exact⟨d,hm.up (if_neg this) fun _ z=>z,r⟩
 ·have:y≠x:=of_decide_eq_true (List.all_eq_true.mp h3 (y,u) (lookup_in hl))
  exact(ht.nm y u hl).up (if_neg this) fun _ z=>z
 ·obtain⟨a,hm,r⟩:=ht.sq y sv hl
  have:y≠x:=of_decide_eq_true (List.all_eq_true.mp h4 (y,sv) (lookup_in hl))
  exact⟨a,hm.up (if_neg this) fun _ z=>z,r⟩
theorem TbOk.addI {x:Str}{ns:List Int}{a:Addr}{vs:List Value}(ht:TbOk C m nw tb)(hm:NmIs C m nw x (.ref a))(hmem:SeqIn nw a vs)(hI:IntsAre vs ns):TbOk C m nw { tb with il:=(x,ns)::tb.il }:=by
 refine⟨ht.gl,fun y ns' hl=>?_,ht.ats,ht.fo,ht.nm,ht.sq,ht.lk⟩
 rw[List.lookup_cons] at hl
 split at hl
 ·rename (_==_)=true=>e
  cases hl
  rw[eq_of_beq e]
  exact⟨a,vs,hm,hmem,hI⟩
 ·exact ht.il y ns' hl
theorem TbOk.addA {x at':Str}{v:Value}{d:Addr}(ht:TbOk C m nw tb)(hm:NmIs C m nw x (.ref d))(hA:AttrOk C nw d at' v):TbOk C m nw { tb with ats:=((x,at'),v)::tb.ats }:=by
 refine⟨ht.gl,ht.il,fun y b u hl=>?_,ht.fo,ht.nm,ht.sq,ht.lk⟩
 rw[List.lookup_cons] at hl
 split at hl
 ·rename (_==_)=true=>e
  cases hl
  have e':=eq_of_beq e
  cases e'
  exact⟨d,hm,hA⟩
 ·exact ht.ats y b u hl
theorem TbOk.addN {x:Str}{v:Value}(ht:TbOk C m nw tb)(hm:NmIs C m nw x v):TbOk C m nw { tb with nm:=(x,v)::tb.nm }:=by
 refine⟨ht.gl,ht.il,ht.ats,ht.fo,fun y u hl=>?_,ht.sq,ht.lk⟩
 rw[List.lookup_cons] at hl
 split at hl
 ·rename (_==_)=true=>e
  cases hl
  rw[eq_of_beq e]
  exact hm
 ·exact ht.nm y u hl
theorem TbOk.addQ {x:Str}{sv:SV}{a:Addr}(ht:TbOk C m nw tb)(hm:NmIs C m nw x (.ref a))(hS:SvOk nw a sv):TbOk C m nw { tb with sq:=(x,sv)::tb.sq }:=by
 refine⟨ht.gl,ht.il,ht.ats,ht.fo,ht.nm,fun y sv' hl=>?_,ht.lk⟩
 rw[List.lookup_cons] at hl
 split at hl
 ·rename (_==_)=true=>e
  cases hl
  rw[eq_of_beq e]
  exact⟨a,hm,hS⟩
 ·exact ht.sq y sv' hl
theorem TbOk.addF {f:Str}{r:List PV->Rs}(ht:TbOk C m nw tb)(hf:FnOk C f r):TbOk C m nw { tb with fo:=(f,r)::tb.fo }:=by
 refine⟨ht.gl,ht.il,ht.ats,fun g r' hl=>?_,ht.nm,ht.sq,ht.lk⟩
 rw[List.lookup_cons] at hl
 split at hl
 ·rename (_==_)=true=>e
  cases hl
  rw[eq_of_beq e]
  exact hf
 ·exact ht.fo g r' hl
theorem J.tab {st:List Stmt}(ht:TbOk C m nw tb)(h:TbOk C m nw tb->J C m nw st ks):J C m nw st ks:=h ht
theorem J.seti {x:Str}{e i:Expr}{p p2:Pos}{D:Addr}{vs:List Value}{n k:Nat}{v:Int}(ht:TbOk C m ((D,listOf vs.toArray n)::nw) tb)(he:(C.pV m tb e).holds fun z=>z=.int v)(hx:pNm C.env m tb x=some (.ref D))
  (hi:(C.pV m tb i).holds fun z=>z=.int k) (hk:k<vs.length/\k<100000000) (hne:∀p∈nw,p.1≠D) (hs:swapsWith e (some (.Subscript (.Name x p) i p2)) pos.line C.env=pure false)
  (q:∀t,J C m ((D,listOf (vs.set k (.int v t)).toArray n)::nw) rest ks):J C m ((D,listOf vs.toArray n)::nw) (.Assign [.Subscript (.Name x p) i p2] e pos::rest) ks:=by
 refine J.step fun h tk F N=>wpAny_Assign_Subscript ((pv_all ht 30).1 e _ (Rs.mono (fun z e1 t h1 tk1 F1 N1=>?_) he) _ _ F N) hs
 subst e1
 refine nm_ok ht hx p _ (fun h2 tk2 F2 N2=>?_) _ _ F1 N1
 refine(pv_all ht 30).1 i _ (Rs.mono (fun z e3 t3 h3 tk3 F3 N3=>?_) hi) _ _ F2 N2
 subst e3
 exact set_listH (s:=C.sg h3 tk3) F3 N3 hk.1 hk.2 hne fun h4 F4 N4=>q t h4 tk3 F4 N4
theorem J.lrange {x y:Str}{it:Expr}{a b c:Int}{p p' p2:Pos}(n:Nat)(ht:TbOk C m nw tb)(hy:pNm C.env m tb y=some (.type "list"))(hp:plainArg it=true)(hit:RangeIs C m nw it a b c)(hsm:Builtin.Range.small a b c=true)(hn:Builtin.Range.rangeSize a b c=(n:Int))(hl:n<=2^24)
  (hx:C.kl x=some .local) (hs:swapsWith (.Call (.Name y p) [it] [] p') (some (.Name x p2)) pos.line C.env=pure false)
  (q:∀l vs cnt,(∀p∈nw,p.1<l)->vs.length=n->IntsAre vs ((List.range n).map fun(i:Nat)=>a+(i:Int)*c)->J C (up m x (.ref l)) ((l,listOf vs.toArray cnt)::nw) rest ks):
  J C m nw (.Assign [.Name x p2] (.Call (.Name y p) [it] [] p') pos::rest) ks:=by
 refine J.step fun h tk F N=>wpAny_Assign_Name (Call_ (nm_ok ht hy p _ (fun h0 tk0 F0 N0=>Pv.callWith_type1 (args_cons ?_ (star1 hp)) (star1 hp)) h tk F N)) hs
 refine hit _ (fun r t u v h1 tk1 F1 N1 hr=>?_) h0 tk0 F0 N0
 refine args_nil (list_range_K (s:=C.sg h1 tk1) C.hh F1 N1 hr hsm hn hl fun h2 tk2 vs cnt l F2 N2 hlt hlen hI=>?_)
 exact J.store (tk:=tk2) hx F2 N2 (q l vs cnt hlt hlen hI)
end
section
variable {C:Cx}{f:Str}{ad:Addr}{r:List PV->Rs}
theorem FnOk.of (hg:C.gl.lookup f=some (.ref ad))(hx:C.env.kindOf f=some .globalImplicit)(hd:(f==ofString "__debug__")=false)(X:(K C.w.params).In C.h₀)(hK:keepIn (K C.w.params) (.ref ad)=true)
  (go:∀(m:Str->Option Value) (nw:Led) ps vs (Q:Value->Shared->Prop),VsDen ps vs->(r ps).holds (VK C m nw Q)->At C m nw fun s=>wpAny C.M C.A (call (.ref ad) vs) Q C.E s):FnOk C f r:=by
 intro m nw x xs p p' Q px pxs hv h tk F N
 refine Call_ (C.hG _ _ hg _ _ _ _ _ _ _ _ C.hk C.hg C.hb hx hd F ?_)
 refine callWith_K X hK (wpAny_mono (hv h tk F N) (fun vs s1 q=>?_) fun _ _ e=>e) (star1 px) (starAll pxs)
 obtain⟨ps,hd,hr,h1,tk1,rfl,F1,N1⟩:=q
 exact⟨X.keeps F1.keep,go m nw ps vs Q hd hr h1 tk1 F1 N1⟩
end
end Uc
end
local macro_rules | `(tactic|walk_at "h")=> `(tactic|first|assumption|exact Uc.TbOk.up ‹_›|exact Uc.TbOk.up (Uc.TbOk.up ‹_›)|exact Uc.TbOk.up (Uc.TbOk.up (Uc.TbOk.up ‹_›))|exact Uc.tb0)
local macro_rules | `(tactic|walk_at "a")=> `(tactic|first|(refine' Uc.J.asg ?ht ?jp ?jx ?js ?_;(case ht=>walk_at "h");(case jp=>exact rfl);(case jx=>exact rfl);(case js=>exact rfl))|(refine' Uc.J.asg_c ?ht ?jp ?jx ?js ?jc ?_;(case ht=>walk_at "h");(case jp=>exact rfl);(case jx=>exact rfl);(case js=>exact rfl);(case jc=>first|omega|skip)))
local macro_rules | `(tactic|walk_at "i")=> `(tactic|first|(refine' Uc.J.ite ?ht ?jp ?_ ?_;(case ht=>walk_at "h");(case jp=>exact rfl))|(refine' Uc.J.ite_c ?ht ?jp ?jc ?_ ?_;(case ht=>walk_at "h");(case jp=>exact rfl);(case jc=>first|omega|skip)))
local macro_rules | `(tactic|walk_at "e")=> `(tactic|first|(refine' Uc.J.ret ?ht ?jp ?_;(case ht=>walk_at "h");(case jp=>exact rfl))|(refine' Uc.J.ret_c ?ht ?jp ?jc ?_;(case ht=>walk_at "h");(case jp=>exact rfl);(case jc=>first|omega|skip)))
local macro_rules | `(tactic|walk_at "s")=> `(tactic|first|(refine' Uc.Rs.holds_ok ?jp ?_;(case jp=>exact rfl))|(refine' Uc.Rs.holds_c ?jp ?jc ?_;(case jp=>exact rfl);(case jc=>first|omega|skip)))
local macro_rules | `(tactic|walk_at "b")=> `(tactic|first|(refine' Uc.Bs.holds_ok ?jp ?_;(case jp=>exact rfl))|(refine' Uc.Bs.holds_c ?jp ?jc ?_;(case jp=>exact rfl);(case jc=>first|omega|skip)))
local macro_rules | `(tactic|walk_at "V")=> `(tactic|(walk_at "F";fail_if_success with_reducible refine Uc.isP ?_))
local macro_rules | `(tactic|walk_at "X")=> `(tactic|repeat' (first|walk_at "P"|(walk_at "V";walk_at "T")))
section
namespace Uc
noncomputable def glob:List (Str×Value):=[(ofString "_MOVE_COST",.int 2 2388),(ofString "_CASE_COST",.int 1 2390),(ofString "_MAX_STRING_SIZE",.int 40 2386),
 (ofString "len",.builtin "len"),(ofString "min",.builtin "min"),(ofString "max",.builtin "max"),(ofString "ord",.builtin "ord"),(ofString "chr",.builtin "chr"),(ofString "sum",.builtin "sum"),(ofString "range",.type "range"),(ofString "list",.type "list"),(ofString "_substitution_cost",.ref 200),(ofString "_levenshtein_distance",.ref 207),(ofString "_law_column",.ref 233),(ofString "_law_typed",.ref 221),(ofString "_law_spelled",.ref 226),(ofString "_law_lexer",.ref 214),(ofString "_law_page",.ref 238),(ofString "in_table_b1",.ref 147),(ofString "map_table_b3",.ref 193),(ofString "Whitespace",.ref 83)]
theorem gl_ok {w:World}{p:Program}{loose:List Str}{mean:ExcName->Option Value}{mg mb:Str->Option Value}{h₀:Heap}(X:(K w.params).In h₀)(T:Top p loose mean mg mb h₀):GlOk Challenge.rw_uc0057_02.prog w h₀ glob:=by
 revert X
 k_fill
 intro X x v hl A E L env m s Q pos hk hg hb hx hd F q
 have T':=topRead_of T
 have hm:=lookup_in hl
 unfold glob at hm
 simp only[List.mem_cons,List.not_mem_nil,or_false,Prod.mk.injEq] at hm
 rcases hm with ⟨rfl,rfl⟩|⟨rfl,rfl⟩|⟨rfl,rfl⟩|⟨rfl,rfl⟩|⟨rfl,rfl⟩|⟨rfl,rfl⟩|⟨rfl,rfl⟩|⟨rfl,rfl⟩|⟨rfl,rfl⟩|⟨rfl,rfl⟩|⟨rfl,rfl⟩|⟨rfl,rfl⟩|⟨rfl,rfl⟩|⟨rfl,rfl⟩|⟨rfl,rfl⟩|⟨rfl,rfl⟩|⟨rfl,rfl⟩|⟨rfl,rfl⟩|⟨rfl,rfl⟩|⟨rfl,rfl⟩|⟨rfl,rfl⟩
 ·exact nameE_K (mean:=mean) F X T' (by k_is) hk hg hx hd q
 ·exact nameE_K (mean:=mean) F X T' (by k_is) hk hg hx hd q
 ·exact nameE_K (mean:=mean) F X T' (by k_is) hk hg hx hd q
 ·exact nameE_B (mean:=mean) F X T' (by k_is) (by boot_fast) (by decide) hk hg hb hx hd q
 ·exact nameE_B (mean:=mean) F X T' (by k_is) (by boot_fast) (by decide) hk hg hb hx hd q
 ·exact nameE_B (mean:=mean) F X T' (by k_is) (by boot_fast) (by decide) hk hg hb hx hd q
 ·exact nameE_B (mean:=mean) F X T' (by k_is) (by boot_fast) (by decide) hk hg hb hx hd q
 ·exact nameE_B (mean:=mean) F X T' (by k_is) (by boot_fast) (by decide) hk hg hb hx hd q
 ·exact nameE_B (mean:=mean) F X T' (by k_is) (by boot_fast) (by decide) hk hg hb hx hd q
 ·exact nameE_B (mean:=mean) F X T' (by k_is) (by boot_fast) (by decide) hk hg hb hx hd q
 ·exact nameE_B (mean:=mean) F X T' (by k_is) (by boot_fast) (by decide) hk hg hb hx hd q
 ·exact nameE_K (mean:=mean) F X T' (by k_is) hk hg hx hd q
 ·exact nameE_K (mean:=mean) F X T' (by k_is) hk hg hx hd q
 ·exact nameE_K (mean:=mean) F X T' (by k_is) hk hg hx hd q
 ·exact nameE_K (mean:=mean) F X T' (by k_is) hk hg hx hd q
 ·exact nameE_K (mean:=mean) F X T' (by k_is) hk hg hx hd q
 ·exact nameE_K (mean:=mean) F X T' (by k_is) hk hg hx hd q
 ·exact nameE_K (mean:=mean) F X T' (by k_is) hk hg hx hd q
 ·exact nameE_K (mean:=mean) F X T' (by k_is) hk hg hx hd q
 ·exact nameE_K (mean:=mean) F X T' (by k_is) hk hg hx hd q
 ·exact nameE_K (mean:=mean) F X T' (by k_is) hk hg hx hd q
end Uc
end
section
namespace Uc
structure CxOk (C:Cx) (p:Program) (loose:List Str) (mean:ExcName->Option Value) (mg mb:Str->Option Value) (pre:Heap->Prop) (d u:Nat):Prop where
 gl:C.gl=glob
 X:(K C.w.params).In C.h₀
 T:Top p loose mean mg mb C.h₀
 ex:∃dp un gd outer A₀ base,C.prog=Challenge.rw_uc0057_02.prog/\(∃cn cs a cd cl,cs.kind=.function/\C.A=ktrTop dp un gd cn cs C.L a cd cl outer)/\Below A₀ base outer C.h₀/\pre base/\dp+d<recursionLimit/\un+u<cLine
section
variable {C:Cx}{p:Program}{loose:List Str}{mean:ExcName->Option Value}{mg mb:Str->Option Value}{pre:Heap->Prop}{d u:Nat}
theorem CxOk.setQ {Q:Flow->Shared->Prop}(ok:CxOk C p loose mean mg mb pre d u):CxOk (C.setQ Q) p loose mean mg mb pre d u:=⟨ok.gl,ok.X,ok.T,ok.ex⟩
theorem CxOk.call {m:Str->Option Value}{nw:Led}{f:Addr}{d' u':Nat}{vs:List Value}{pre':Heap->Prop}{R:Value->Led->Prop}{Q:Value->Shared->Prop}(ok:CxOk C p loose mean mg mb pre d u)(hc:Con C.w p loose mean mg mb f d' u' vs nw pre' R)
  (q:∀v nw',R v nw'->At C m nw' (Q v)) (hp':∀h,pre h->pre' h) (hd:d'<=d) (hu:u'<=u):At C m nw fun s=>wpAny C.M C.A (call (.ref f) vs) Q C.E s:=by
 obtain⟨dp,un,gd,outer,A₀,base,hp,⟨cn,cs,a,cd,cl,hk,hA⟩,B,hb,h1,h2⟩:=ok.ex
 intro h tk F N
 have:=hc dp un gd cn cs a cd cl outer A₀ base C.h₀ C.L m (C.sg h tk) Q C.E B F ok.X N ok.T hk (hp' _ hb) (Nat.lt_of_le_of_lt (Nat.add_le_add_left hd dp) h1) (Nat.lt_of_le_of_lt (Nat.add_le_add_left hu un) h2) (fun v n h' tk' hr F' N'=>q v n hr h' tk' F' N')
 unfold Cx.M
 rw[hp,hA]
 exact this
theorem FnOk.con {f:Str}{ad:Addr}{r:List PV->Rs}(ok:CxOk C p loose mean mg mb pre d u)(hg:glob.lookup f=some (.ref ad))(hK:∀P,keepIn (K P) (.ref ad)=true)(hx:C.env.kindOf f=some .globalImplicit)(hd:(f==ofString "__debug__")=false)
  (go:∀(m:Str->Option Value) (nw:Led) ps vs (Q:Value->Shared->Prop),VsDen ps vs->(r ps).holds (VK C m nw Q)->At C m nw fun s=>wpAny C.M C.A (call (.ref ad) vs) Q C.E s):FnOk C f r:=
 FnOk.of (by rw[ok.gl];exact hg) hx hd ok.X (hK _) go
end
theorem keep_sub (P:Params):keepIn (K P) (.ref 200)=true:=rfl
end Uc
end
section
namespace Uc
section
variable {C:Cx}{m:Str->Option Value}{nw:Led}{tb:Tb}{rest:List Stmt}{ks:List (List Stmt)}{pos:Pos}
theorem TbOk.setQ {Q:Flow->Shared->Prop}(ht:TbOk C m nw tb):TbOk (C.setQ Q) m nw tb:=⟨ht.gl,ht.il,ht.ats,ht.fo,ht.nm,ht.sq,ht.lk⟩
noncomputable def jnQ {σ:Type}(C:Cx)(led:σ->Led)(ps:σ->Nms)(P:σ->Prop)(K:Flow->Shared->Prop)(f:Flow)(s':Shared):Prop:=match f with
 | .next=>∃c' m' h' tk',s'=C.sg h' tk'/\Fr C.h₀ C.L h' m'/\News C.h₀ C.L h' (led c')/\Has m' (ps c')/\P c'
 |f=>K f s'
theorem J.jn {σ:Type}{led:σ->Led}{ps:σ->Nms}{P:σ->Prop}{K:Flow->Shared->Prop}(c':σ)(hk:Has m (ps c'))(hp:P c')(hs:∀p∈led c',p∈nw):J (C.setQ (jnQ C led ps P K)) m nw [] []:=
 J.done fun h tk F N=>⟨c',m,h,tk,rfl,F,News.sub N hs,hk,hp⟩
theorem J.jl {σ:Type}{led:σ->Led}{ps:σ->Nms}{P:σ->Prop}{K:Flow->Shared->Prop}(c':σ)(hs:led c'=nw)(hk:Has m (ps c'))(hp:P c'):J (C.setQ (jnQ C led ps P K)) m nw [] []:=
 J.jn c' hk hp fun _ h=>hs▸h
theorem if_x {t:Expr}{b o:List Stmt}{P:Flow->Shared->Prop}{p:Prop}(h:∀Q:Bool->Shared->Prop,BK C m nw Q p->At C m nw fun s=>wpAny C.M C.A (isTrue t C.env (eval t C.env)) Q C.E s)
  (h1:p->let C':=C.setQ P;J C' m nw b []) (h2:¬ p->let C':=C.setQ P;J C' m nw o []):At C m nw fun s=>wpAny C.M C.A (exec (.If t b o pos) C.env) P C.E s:=by
 refine fun h0 tk F N=>wpAny_If (h _ (fun c hc h' tk' F' N'=>?_) h0 tk F N)
 cases c with
 |true=>rw[if_pos rfl];exact h1 (hc.mp rfl) h' tk' F' N'
 |false=>rw[if_neg (by decide)];exact h2 (fun z=>Bool.false_ne_true (hc.mpr z)) h' tk' F' N'
theorem At.gen {T:Shared->Prop}(l:Nms)(hk:Has m l)(h:∀u,At C (fm u l) nw T):At C m nw T:=by
 have:=h m
 rwa [fm_eq hk] at this
theorem J.stepJ {σ:Type}{st:Stmt}(led:σ->Led)(ps:σ->Nms)(P:σ->Prop)(h:At C m nw fun s=>wpAny C.M C.A (exec st C.env) (jnQ C led ps P (C.post (rest::ks))) C.E s)
  (h2:∀c u,P c->J C (fm u (ps c)) (led c) rest ks):J C m nw (st::rest) ks:=by
 refine J.step fun h0 tk F N=>wpAny_mono (h h0 tk F N) (fun f s' q=>?_) fun _ _ e=>e
 cases f with
 |next=>
  (refine Uc.ex4 q fun c' m' h' tk'=>Uc.an5 fun e1q F' N' hk' hp'=>?_;clear q;subst e1q)
  exact h2 c' m' hp' h' tk' (by rw[fm_eq hk'];exact F') N'
 |ret v=>exact q
 |brk=>exact q
 |cont=>exact q
end
theorem CxOk.go {C:Cx}{p:Program}{loose:List Str}{mean:ExcName->Option Value}{mg mb:Str->Option Value}{pre pre':Heap->Prop}{d u d' u':Nat}{m:Str->Option Value}{nw:Led}{f:Addr}{vs:List Value}{R:Value->Led->Prop}{Q:Value->Shared->Prop}{h:Heap}{tk:Nat}
  (ok:CxOk C p loose mean mg mb pre d u) (hc:Con C.w p loose mean mg mb f d' u' vs nw pre' R) (F:Fr C.h₀ C.L h m) (N:News C.h₀ C.L h nw) (q:∀v nw',R v nw'->At C m nw' (Q v))
  (hp':∀h,pre h->pre' h) (hd:d'<=d) (hu:u'<=u):wpAny C.M C.A (PySem.call (.ref f) vs) Q C.E (C.sg h tk):=ok.call hc q hp' hd hu h tk F N
end Uc
end
section
namespace Uc
noncomputable def okV (h:Int):Value->Bool
 | .int k _=>h==k&&decide (0<=k)&&decide (k<1000000)
 |_=>false
noncomputable def okE (e:Int×Value):Bool:=okV e.1 e.2
theorem hash_small {k:Int}(h:0<=k)(h':k<1000000):hashInt k=k:=by
 have e:rawHash k=k:=by
  unfold rawHash
  have e1:k.natAbs%(2^61-1)=k.natAbs:=Nat.mod_eq_of_lt (by omega)
  have e2:((k.natAbs:Int)%((2^61-1:Nat):Int))=k:=by
   rw[<-Int.natCast_emod,e1]
   omega
  have e3:¬ k<0:=by omega
  have e4:(k== -1)=false:=by simp;omega
  simp only[e3,if_false,e2,e4,Bool.false_eq_true]
 unfold hashInt
 rw[e,if_neg (by simp;omega)]
theorem okV_i {h k:Int}{t:Tok}(q:okV h (.int k t)=true):h=hashInt k/\h=k:=by
 replace q:(h==k&&decide (0<=k)&&decide (k<1000000))=true:=q
 simp only[Bool.and_eq_true,beq_iff_eq,decide_eq_true_eq] at q
 exact⟨by rw[hash_small q.1.2 q.2];exact q.1.1,q.1.1⟩
noncomputable def b1E (P:Params):List (Int×Value):=match (o137 P).data with
 | .set es _ _=>es.toList
 |_=>[]
theorem b1_ok (P:Params):(b1E P).all okE=true:=by kernel_rfl
noncomputable def b1K:List Int:=[65024,65025,65026,65027,65028,65029,6150,65030,65031,65032,65033,6155,6156,6157,8203,8204,8205,65034,65035,65036,65037,65038,65039,173,847,8288,65279]
noncomputable def isB1 (c:Int):Bool:=b1K.any (· ==c)
theorem b1_is (P:Params)(prog:Program)(w:World):(o137 P).SetObjOf (intKind prog w) isB1 27:=by
 refine⟨⟨rfl,rfl,rfl⟩,(b1E P).toArray,_,_,rfl,?_,?_,rfl,rfl⟩
 ·intro e he
  have he:e∈b1E P:=by simpa using he
  obtain⟨hv,v⟩:=e
  have this:okV hv v=true:=List.all_eq_true.mp (b1_ok P) _ he
  cases v with
  |int k t=>exact⟨⟨k,isInt_self k t,(okV_i this).1⟩,rfl⟩
  |_=>cases this
 ·intro k
  show isB1 k=true↔∃e∈(b1E P).toArray.toList,Value.isInt k e.2=true
  have:isB1 k=(b1E P).any (fun e=>Value.isInt k e.2):=rfl
  rw[this,List.any_eq_true]
noncomputable def strV:Value->Option Str
 | .str v _=>some v
 |_=>none
noncomputable def okD (e:DictEntry):Bool:=okV e.hash e.key&&(strV e.val).isSome
noncomputable def keyD (e:DictEntry):Int:=e.hash
noncomputable def valD (e:DictEntry):Str:=(strV e.val).getD Str.empty
theorem okD_i {e:DictEntry}(h:okD e=true):∃t v u,e=⟨e.hash,.int e.hash t,.str v u⟩/\e.hash=hashInt e.hash:=by
 obtain⟨hs,key,val⟩:=e
 obtain⟨ha,hb⟩:=Bool.and_eq_true_iff.mp h
 cases key with
 |int k t=>cases val with
  |str v u=>
   replace ha:=okV_i ha
   obtain rfl:hs=k:=ha.2
   exact⟨t,v,u,rfl,ha.1⟩
  |_=>cases hb
 |_=>cases ha
noncomputable def incr:List Int->Bool
 |a::b::r=>decide (a<b)&&incr (b::r)
 |_=>true
theorem incr_i {a b:Int}{l:List Int}(h:incr (a::b::l)=true):a<b/\incr (b::l)=true:=⟨of_decide_eq_true (Bool.and_eq_true_iff.mp h).1,(Bool.and_eq_true_iff.mp h).2⟩
theorem incr_lt:∀{l:List Int} {a:Int},incr (a::l)=true->∀b∈l,a<b
 | [],_,_,b,h=>absurd h (List.not_mem_nil)
 |c::l,a,h,b,hb=>by
  replace h:=incr_i h
  rcases List.mem_cons.mp hb with rfl|hb
  ·exact h.1
  ·exact Int.lt_trans h.1 (incr_lt h.2 b hb)
theorem incr_nodup:∀{l:List Int},incr l=true->l.Nodup
 | [],_=>.nil
 | [a],_=>by simp
 |a::b::l,h=>by
  have hl:=incr_lt h
  replace h:=incr_i h
  exact List.nodup_cons.mpr ⟨fun hm=>absurd (hl a hm) (Int.lt_irrefl _),incr_nodup h.2⟩
noncomputable def b3E:List DictEntry:=tabFrom 0 tabKeys tabVals
noncomputable def b3L:List (Int×Str):=b3E.map fun e=>(keyD e,valD e)
theorem b3_ok:b3E.all okD=true:=by kernel_rfl
theorem b3_incr:incr (b3E.map keyD)=true:=by kernel_rfl
noncomputable def b3? (c:Int):Option Str:=b3L.lookup c
theorem pairs_of {prog:Program}{w:World}:∀(l:List DictEntry),l.all okD=true->Pairs (intKind prog w) l (l.map fun e=>(keyD e,e.val))/\PyProof.V.FlatPairs PyData.int (l.map fun e=>(keyD e,e.val)) ((l.map fun e=>(keyD e,valD e)).map fun p=>(PyData.int p.1,PyData.str p.2))
 | [],_=>⟨.nil,.nil⟩
 |e::l,h=>by
  rw[List.all_cons,Bool.and_eq_true] at h
  obtain⟨h1,h2⟩:=h
  obtain⟨p,q⟩:=pairs_of l h2
  (refine Uc.ex3 (okD_i h1) fun t v u=>Uc.an2 fun e1 _=>?_)
  rw[e1]
  exact⟨.cons (isInt_self _ t) rfl p,.cons (.str v u) q⟩
theorem keys_of {prog:Program}{w:World}(l:List DictEntry)(h:l.all okD=true):PySem.KeysOf (intKind prog w) l.toArray:=by
 intro e he
 have he:e∈l:=by simpa using he
 (refine Uc.ex3 (okD_i (List.all_eq_true.mp h e he)) fun t v u=>Uc.an2 fun e1 e2=>?_)
 rw[e1]
 exact⟨e.hash,isInt_self _ t,e2⟩
theorem b3_tab {prog:Program}{w:World}{h:Heap}{P:Params}(ho:h.get? 148=some (o148 P)):IntTab prog w h 148 (b3L.map fun p=>(PyData.int p.1,PyData.str p.2)):=by
 refine TabAt.ofObj (by decide) ho (kvs:=b3E.map fun e=>(keyD e,e.val)) ⟨b3E.toArray,_,⟨rfl,rfl,rfl⟩,rfl,keys_of _ b3_ok,?_,?_⟩ (pairs_of (prog:=prog) (w:=w) _ b3_ok).2
 ·exact(pairs_of b3E b3_ok).1
 ·have:=incr_nodup b3_incr
  rw[List.map_map]
  exact this
theorem lookup_ints (c:Int):∀l:List (Int×Str),PySem.Spec.lookup (.int c) (l.map fun p=>(PyData.int p.1,PyData.str p.2))=(l.lookup c).map PyData.str
 | []=>rfl
 |(k,v)::l=>by
  rw[List.map_cons,PySem.Spec.lookup,lookup_ints c l,List.lookup_cons]
  have:PySem.Spec.same (.int k) (.int c)=(k==c):=rfl
  rw[this]
  by_cases e:k=c
  ·subst e;simp
  ·rw[if_neg (by simpa using e)]
   have:(c==k)=false:=by simpa using fun h=>e h.symm
   rw[this]
theorem K_b1 (P:Params):(K P).lookup 137=some (o137 P):=by kernel_rfl
theorem K_b3 (P:Params):(K P).lookup 148=some (o148 P):=by kernel_rfl
theorem flat_str {v:Value}{x:Str}(h:PyProof.V.Flat v (.str x)):∃t,v=.str x t:=by
 have:=h default
 cases this
 exact⟨_,rfl⟩
theorem flat_none {v:Value}(h:PyProof.V.Flat v .none):v=.none:=by
 have:=h default
 cases this
 rfl
noncomputable def mapB3 (c:Nat):Str:=match b3? c with
 |some v=>v
 |none=>Txt.lower ⟨#[c]⟩
section
variable (w:World)(p:Program)(loose:List Str)(mean:ExcName->Option Value)(mg mb:Str->Option Value)
theorem in_b1 (news:List (Addr×Obj))(c:Nat)(tc:Tok)(hc:c<1114112):
  Con w p loose mean mg mb 147 4 12 [.str ⟨#[c]⟩ tc] news (fun _=>True) (fun v n=>n=news/\v=.bool (isB1 c)):=by
 dsimp only[Con,Pm]
 k_fill
 (set_option tactic.hygienic true in intros)
 rename_i hret
 refine wpAny_call ?_
 k_dflt cell_enter
 (refine Uc.letAE ?_;intro AA EE)
 walk_at "X"
 rename (K w.params).In _=>hX
 rename Fr _ _ _ _=>hF
 refine in_argsetI hF (b1_is w.params _ _) (hX _ _ (K_b1 _)) (by decide) ?_
 walk_at "X"
 exact hret _ _ _ _ ⟨rfl,rfl⟩ ‹_› ‹_›
theorem map_b3 (news:List (Addr×Obj))(c:Nat)(tc:Tok)(hc:c<1114112):
  Con w p loose mean mg mb 193 4 12 [.str ⟨#[c]⟩ tc] news (fun _=>True) (fun v n=>n=news/\∃t,v=.str (mapB3 c) t):=by
 dsimp only[Con,Pm]
 k_fill
 (set_option tactic.hygienic true in intros)
 rename_i hret
 refine wpAny_call ?_
 k_dflt cell_enter
 (refine Uc.letAE ?_;intro AA EE)
 walk_at "X"
 rename (K w.params).In _=>hX
 rename Fr _ _ _ _=>hF
 have l1:Str.length ⟨#[c]⟩=1:=rfl
 refine getMethod_intTab_get ((b3_tab (hX _ _ (K_b3 _))).keep hF.keep) ?_
 walk_at "X"
 refine call_get1_intTab ((b3_tab (hX _ _ (K_b3 _))).keep hF.keep) fun v hv=>?_
 have hv:PyProof.V.Flat v ((PySem.Spec.lookup (.int (c:Int)) (b3L.map fun p=>(PyData.int p.1,PyData.str p.2))).getD .none):=hv
 rw[lookup_ints] at hv
 cases hb:b3? c with
 |some x=>
  have hb':b3L.lookup (c:Int)=some x:=hb
  rw[hb'] at hv
  obtain⟨t,rfl⟩:∃t,v=.str x t:=flat_str hv
  walk_at "X"
  exact hret _ _ _ _ ⟨rfl,_,by rw[mapB3,hb]⟩ ‹_› ‹_›
 |none=>
  have hb':b3L.lookup (c:Int)=none:=hb
  rw[hb'] at hv
  obtain rfl:v=.none:=flat_none hv
  repeat' (first|(walk_at "P")|(walk_at "V";first|((with_reducible show wpAny _ _ (call (Value.builtin "str.lower") _) _ _ _);refine SCL.lower (by omega) ?_;intro hLow)|(walk_at "T")))
  exact hret _ _ _ _ ⟨rfl,_,by rw[mapB3,hb]⟩ ‹_› ‹_›
end
end Uc
end
section
namespace Uc
section
variable (w:World)(p:Program)(loose:List Str)(mean:ExcName->Option Value)(mg mb:Str->Option Value)
theorem ws_make (news:List (Addr×Obj))(x:Str)(tx:Tok)(hx:x.length<=1000):
  Con w p loose mean mg mb 83 8 30 [.str x tx] news (fun _=>True) (fun v n=>∃a d P T vs tn tt tb k0 k1 k2 k3 k4,n=(a,instObj 83 d)::(d,dictOf [{ hash:=PyData.keyHash w.params (ofString "raw"),key:=Value.str (ofString "raw") k0,val:=.str x tx },{ hash:=PyData.keyHash w.params (ofString "n"),key:=Value.str (ofString "n") k1,val:=.int ((wsOf x).n:Int) tn },{ hash:=PyData.keyHash w.params (ofString "nt"),key:=Value.str (ofString "nt") k2,val:=.int ((wsOf x).nt:Int) tt },{ hash:=PyData.keyHash w.params (ofString "norm"),key:=Value.str (ofString "norm") k3,val:=.ref P },{ hash:=PyData.keyHash w.params (ofString "is_simple"),key:=Value.str (ofString "is_simple") k4,val:=.bool (decide (((wsOf x).cs.length:Int)<=1)) }] 5)::(P,{ cls:=Value.type "tuple",data:=Data.seq #[Value.ref T,Value.int ((wsOf x).b:Int) tb] })::(T,{ cls:=Value.type "tuple",data:=Data.seq vs.toArray })::news/\v=.ref a/\IntsAre vs (wsOf x).cs/\(∀p∈news,@LT.lt Nat _ p.1 d)/\@LT.lt Nat _ d a/\@LT.lt Nat _ a T/\@LT.lt Nat _ T P):=by
 dsimp only[Con,Pm]
 k_fill
 (set_option tactic.hygienic true in intros)
 rename_i hret
 k_dflt (refine' call_cls ?k1 ?k2 ?k3 ?k4 ?k5 ?k6 ?_;(case k1=>k_asm);(case k2=>k_asm);(case k3=>k_asm);(case k4=>k_is);(case k5=>k_is);(case k6=>k_is);k_whole)
 intro x' d' h' F' N' l1 l2
 (try k_lt l1);(try k_lt2 l2);(try k_sweep)
 k_dflt cell_enter
 (refine Uc.letAE ?_;intro AA EE)
 repeat' (first|(walk_at "P")|(walk_at "V";(fail_if_success (with_reducible show wpAny _ _ (execs (PySem.Stmt.For _ _ _ _ ⟨13,_,_,_⟩::_) _) _ _ _));walk_at "T"))
 rename News _ _ _ (_::_::_::_::news)=>N1
 rename (_<_/\_<_/\_<_/\AllLt _ news)=>hAl
 obtain⟨R₀,hR₀,N2,hAl⟩:=News.cutLt N1 hAl
 rename Fr _ _ _ _=>F2
 walk_at "H"
 refine execs_join F2 (σ:=(Addr×List Int×List Value×Nat×WS)×Tok×Tok×Tok) (fun c=>(c.1.1,W.listOf c.1.2.2.1.toArray c.1.2.2.2.1)::R₀)
   (fun c=>[(ofString "count",.ref c.1.1),(ofString "b",.int (c.1.2.2.2.2.b:Int) c.2.1),(ofString "n",.int (c.1.2.2.2.2.n:Int) c.2.2.1),(ofString "nt",.int (c.1.2.2.2.2.nt:Int) c.2.2.2),(ofString "self",.ref x')])
   (fun c=>wsOf x=c.1.2.2.2.2/\c.1.2.1=c.1.2.2.2.2.cs/\IntsAre c.1.2.2.1 c.1.2.1/\c.1.2.1.length=c.1.2.2.1.length/\(∀p∈R₀,p.1≠c.1.1)/\c.1.2.1.length<=1000) ?j1 ?j2
 case j1=>
  clear N2
  walk_at "X"
  rename News _ _ _ (_::_::_::_::news)=>N1
  have N2:=N1
  rw[<-hR₀] at N2
  refine iter_str (σ:=(Addr×List Int×List Value×Nat×WS)×Tok×Tok×Tok×Tok×Tok) (fun c=>(c.1.1,W.listOf c.1.2.2.1.toArray c.1.2.2.2.1)::R₀)
   (fun c=>[(ofString "count",.ref c.1.1),(ofString "b",.int (c.1.2.2.2.2.b:Int) c.2.1),(ofString "n",.int (c.1.2.2.2.2.n:Int) c.2.2.1),(ofString "nt",.int (c.1.2.2.2.2.nt:Int) c.2.2.2.1),
    (ofString "S",.str (ofString " ") c.2.2.2.2.1),(ofString "T",.str (ofString "\t") c.2.2.2.2.2),(ofString "self",.ref x')])
   (fun i c=>wsOf x=wsGo (x.cps.toList.drop i) c.1.2.2.2.2/\c.1.2.1=c.1.2.2.2.2.cs/\IntsAre c.1.2.2.1 c.1.2.1/\c.1.2.1.length=c.1.2.2.1.length/\(∀p∈R₀,p.1≠c.1.1)/\c.1.2.2.2.2.b<=i/\c.1.2.2.2.2.n<=i/\c.1.2.2.2.2.nt<=i/\c.1.2.1.length<=i)
   ((_,[],[],0,⟨[],0,0,0⟩),_,_,_,_,_) rfl ‹_› N2 ⟨rfl,rfl,rfl,rfl,rfl,rfl,rfl,trivial⟩ ?hp ?turn ?done
  case hp=>exact⟨rfl,rfl,.nil,rfl,hAl,Nat.le_refl _,Nat.le_refl _,Nat.le_refl _,Nat.le_refl _⟩
  case turn=>
   intro i k t
   refine fpLLoooooRoooooR fun lc cs vs cnt st t1 t2 t3 t4 t5=>?_
   intro u h tk I o hk hR1z hne hit F N
   have hR:=hR1z.1
   have hcs:=hR1z.2.1
   have hI:=hR1z.2.2.1
   have hlen:=hR1z.2.2.2.1
   have hne0:=hR1z.2.2.2.2.1
   have hb:=hR1z.2.2.2.2.2.1
   have hn:=hR1z.2.2.2.2.2.2.1
   have hnt:=hR1z.2.2.2.2.2.2.2.1
   have hcl:=hR1z.2.2.2.2.2.2.2.2
   clear hR1z
   k_sweep
   dsimp only at hR hcs hI hlen hne0 hb hn hnt hcl hne F N ⊢
   have hi:i<x.length:=(Array.getElem?_eq_some_iff.mp hk).1
   rw[drop_some hk] at hR
   walk_at "H"
   refine J.start (gl_ok ‹_› ‹_›) F N rfl rfl (by show _+1+3<cLine;ktr_units) ?_
   clear F N
   intro C
   ((repeat(refine Uc.J.nil ?_));walk_at "i")
   ·intro hc
    replace hc:=beq_iff_eq.mpr hc
    rw[sp_is,chr_eq,beq_iff_eq] at hc
    subst hc
    ((repeat(refine Uc.J.nil ?_));walk_at "a");intro t6
    ((repeat(refine Uc.J.nil ?_));walk_at "a");intro t7
    (repeat(refine Uc.J.nil ?_))
    refine J.done ?_
    intro h' tk' F' N'
    dsimp only[C,Cx.sg] at F' N' ⊢
    walk_at "H";exact Turn.next ((lc,cs,vs,cnt,⟨st.cs,st.b+1,st.n+1,st.nt⟩),t7,t6,_,_,_) F' N' (by intro _ h;exact h) (by first|(intro p hp;left;rcases List.mem_cons.mp hp with rfl|hp<;>first|exact List.mem_map.mpr ⟨_,.head _,rfl⟩|exact List.mem_map.mpr ⟨_,.tail _ hp,rfl⟩)|(intro p hp;left;simp only[List.mem_cons,List.map_cons] at hp ⊢;rcases hp with rfl|hp<;>first|exact .inl rfl|exact .inr (List.mem_map_of_mem hp))) ⟨rfl,rfl,rfl,rfl,rfl,rfl,rfl,trivial⟩ ⟨by rw[hR,wsGo_cons,if_pos rfl],hcs,hI,hlen,hne0,Nat.succ_le_succ hb,Nat.succ_le_succ hn,Nat.le_succ_of_le hnt,Nat.le_succ_of_le hcl⟩
   ·intro hc
    replace hc:¬ k=32:=fun e=>hc (by subst e;rfl)
    ((repeat(refine Uc.J.nil ?_));walk_at "i")
    ·intro hd
     replace hd:=beq_iff_eq.mpr hd
     rw[tab_is,chr_eq,beq_iff_eq] at hd
     subst hd
     ((repeat(refine Uc.J.nil ?_));walk_at "a");intro t6
     ((repeat(refine Uc.J.nil ?_));walk_at "a");intro t7
     obtain⟨G,hGd⟩:∃G,G=cs++List.replicate (st.b+1-cs.length) (0:Int):=⟨_,rfl⟩
     have hGl:st.b<G.length/\G.length<=i+1:=by
      subst hGd
      simp only[List.length_append,List.length_replicate]
      (walk_at "O")
     refine J.stepJ (σ:=Addr×List Value×Nat) (fun c=>(c.1,W.listOf c.2.1.toArray c.2.2)::(R₀++[(I,o)]))
      (fun c=>[(ofString "count",.ref c.1),(ofString "b",.int (st.b:Int) t1),(ofString "n",.int ((st.n+1:Nat):Int) t6),(ofString "nt",.int ((st.nt+1:Nat):Int) t7),
       (ofString "S",.str (ofString " ") t4),(ofString "T",.str (ofString "\t") t5),(ofString "self",.ref x')])
      (fun c=>IntsAre c.2.1 G/\(∀p∈R₀++[(I,o)],p.1≠c.1)) ?g1 ?g2
     case g1=>
      intro h tk F N
      dsimp only[C,Cx.sg] at F N ⊢
      walk_at "X"
      ·rename IntsAre _ (cs++_)=>hG
       rename (_<_/\_<_/\AllLt _ ((_,W.listOf vs.toArray cnt)::_))=>hL
       rw[List.flatten_replicate_singleton,show((st.b:Int)-(cs.length:Int)+1).toNat=st.b+1-cs.length by(walk_at "O"), <-hGd] at hG
       exact⟨(_,_,_),_,_,_,rfl,‹_›,News.sub ‹_› (by intro p hp;rcases List.mem_cons.mp hp with rfl|hp<;>first|exact .head _|exact .tail _ (.tail _ (.tail _ (.tail _ hp)))),⟨rfl,rfl,rfl,rfl,rfl,rfl,rfl,trivial⟩,hG,fun p hp=>Nat.ne_of_lt (allLt_all hL.2.2 p (.tail _ hp))⟩
      ·rw[show st.b+1-cs.length=0 by(walk_at "O"),List.replicate_zero,List.append_nil] at hGd
       subst hGd
       exact⟨(lc,vs,cnt),_,_,_,rfl,‹_›,News.sub ‹_› (by walk_at "I"),⟨rfl,rfl,rfl,rfl,rfl,rfl,rfl,trivial⟩,hI,fun p hp=>(List.mem_append.mp hp).elim (hne0 p) fun hp=>by rw[List.mem_singleton.mp hp];exact(hne _ (.head _)).symm⟩
     case g2=>
      refine fpLoooR fun lc' vs' cnt'=>?_
      intro u hR2z
      have hG:=hR2z.1
      have hne1:=hR2z.2
      clear hR2z
      dsimp only at hG hne1 ⊢
      have hvl:=intsAre_len hG
      refine' J.tab (TbOk.addI tb0 (x:=ofString "count") (.loc ?hm rfl rfl) (.inl ⟨_,.head _⟩) hG) fun ht=>?_
      case hm=>exact rfl
      refine' J.seti ht ?he rfl ?hi ⟨by rw[hvl];exact hGl.1,by omega⟩ hne1 ?hs fun t8=>?_
      case he=>walk_at "s";exact rfl
      case hi=>walk_at "s";exact rfl
      case hs=>exact rfl
      ((repeat(refine Uc.J.nil ?_));walk_at "a");intro t9
      (repeat(refine Uc.J.nil ?_))
      refine J.done ?_
      intro h' tk' F' N'
      dsimp only[C,Cx.sg] at F' N' ⊢
      walk_at "H";exact Turn.next ((lc',bump cs st.b,_,_,⟨bump cs st.b,0,st.n+1,st.nt+1⟩),t9,t6,t7,_,_) F' N' (by intro _ h;exact h) (by intro p hp;rcases List.mem_cons.mp hp with rfl|hp<;>first|exact .inr rfl|exact .inl (.tail _ (List.mem_map_of_mem hp)))
       ⟨rfl,rfl,rfl,rfl,rfl,rfl,rfl,trivial⟩ ⟨by rw[hR,wsGo_cons,if_neg (by decide),if_pos rfl, <-hcs],rfl,by subst hGd;exact intsAre_set _ _ hG st.b,by subst hGd;simp only[bump,List.length_set];exact hvl.symm,fun p hp=>hne1 p (List.mem_append.mpr (.inl hp)),Nat.zero_le _,Nat.succ_le_succ hn,Nat.succ_le_succ hnt,by subst hGd;simp only[bump,List.length_set];exact hGl.2⟩
    ·intro hd
     replace hd:¬ k=9:=fun e=>hd (by subst e;rfl)
     refine J.brk ?_
     intro h tk F N
     dsimp only[C,Cx.sg] at F N ⊢
     walk_at "H"
     refine Turn.brk ?_
     walk_at "H"
     walk_at "H";exact GotF.mk ((lc,cs,vs,cnt,st),_,_,_) F N (fun p hp=>List.mem_append_left _ hp) ⟨rfl,rfl,rfl,rfl,rfl,trivial⟩ ⟨by rw[hR,wsGo_cons,if_neg hc,if_neg hd],hcs,hI,hlen,hne0,Nat.le_trans hcl (Nat.le_of_lt (Nat.lt_of_lt_of_le hi hx))⟩
  case done=>
   refine fpLLoooooRoooooR fun lc cs vs cnt st t1 t2 t3 t4 t5=>?_
   intro u h tk hR3z F N
   have hR:=hR3z.1
   have hcs:=hR3z.2.1
   have hI:=hR3z.2.2.1
   have hlen:=hR3z.2.2.2.1
   have hne0:=hR3z.2.2.2.2.1
   have hb:=hR3z.2.2.2.2.2.1
   have hn:=hR3z.2.2.2.2.2.2.1
   have hnt:=hR3z.2.2.2.2.2.2.2.1
   have hcl:=hR3z.2.2.2.2.2.2.2.2
   clear hR3z
   k_sweep
   dsimp only at hR hcs hI hlen hne0 hb hn hnt hcl F N ⊢
   have hx':x.cps.size=x.length:=rfl
   rw[List.drop_of_length_le (by simp)] at hR
   walk_at "H";exact GotF.mk ((lc,cs,vs,cnt,st),_,_,_) F N (fun _ h=>h) ⟨rfl,rfl,rfl,rfl,rfl,trivial⟩ ⟨hR,hcs,hI,hlen,hne0,by dsimp only;(walk_at "O")⟩
 refine fpLLoooooRoooR fun lc cs vs cnt st t1 t2 t3=>?_
 intro u h tk hR4z F N
 have hR:=hR4z.1
 have hcs:=hR4z.2.1
 have hI:=hR4z.2.2.1
 have hlen:=hR4z.2.2.2.1
 have hne0:=hR4z.2.2.2.2.1
 have hcl:=hR4z.2.2.2.2.2
 clear hR4z
 k_sweep
 dsimp only at hR hcs hI hlen hne0 hcl F N ⊢
 subst hR₀
 simp only[List.forall_mem_cons] at hne0
 obtain⟨q1,q2,q3,q4⟩:=hne0
 have q1:=neN q1
 have q2:=neN q2
 have q3:=neN q3
 repeat' (first|(walk_at "P")|(walk_at "V";first|((with_reducible show wpAny _ _ (call (Value.type "tuple") [Value.ref _]) _ _ _);(with_reducible rename Fr _ _ _ _=>F99);(with_reducible rename News _ _ _ _=>N99);(refine kde_tupleOf F99 N99 (News.isList N99 (by k_mem)) (by size_fits) rfl ?_);(intro D99 h99 F98 N98 l99);(k_lt l99))|(walk_at "T")))
 subst hcs hR
 rename News _ _ _ (_::_::_::_::_::_::news)=>kN
 rename (D99<_/\_)=>hP99
 exact hret _ _ _ _ (Uc.ei13 _ _ _ _ _ _ _ _ _ _ _ _ _ ⟨rfl,rfl,hI,l1,l2,l99.2.2.1,hP99.1⟩) ‹_› (News.sub kN fun p hp=>by
  rcases List.mem_cons.mp hp with rfl|hp
  ·exact .tail _ (.tail _ (.tail _ (.tail _ (.head _))))
  rcases List.mem_cons.mp hp with rfl|hp
  ·exact .tail _ (.tail _ (.tail _ (.tail _ (.tail _ (.head _)))))
  rcases List.mem_cons.mp hp with rfl|hp
  ·exact .head _
  rcases List.mem_cons.mp hp with rfl|hp
  ·exact .tail _ (.head _)
  exact .tail _ (.tail _ (.tail _ (.tail _ (.tail _ (.tail _ hp))))))
end
end Uc
end
section
namespace Uc
noncomputable def ilSum (cs:List Int)(sz:Nat):Nat->Int
 |0=>0
 |k+1=>ilSum cs sz k+(((sz+k) / sz:Nat):Int)*cs.getD (sz+k) 0
noncomputable def colOf (s:WS)(sz:Nat):Int:=s.b+sz*(ilSum s.cs sz (s.cs.length-sz)+s.nt)
section
variable (w:World)(p:Program)(loose:List Str)(mean:ExcName->Option Value)(mg mb:Str->Option Value)
theorem indent (news:List (Addr×Obj))(x:Str)(a d P T:Addr)(vs:List Value)(tx tn tt tb k0 k1 k2 k3 k4 ts:Tok)(sz:Nat)(hx:x.length<=1000)(hv:IntsAre vs (wsOf x).cs)(hl:vs.length<=1000)(h1:1<=sz)(h2:sz<=1000):
  Con w p loose mean mg mb 52 8 30 [.ref a,.int (sz:Int) ts] ((a,instObj 83 d)::(d,dictOf [{ hash:=PyData.keyHash w.params (ofString "raw"),key:=Value.str (ofString "raw") k0,val:=.str x tx },{ hash:=PyData.keyHash w.params (ofString "n"),key:=Value.str (ofString "n") k1,val:=.int ((wsOf x).n:Int) tn },{ hash:=PyData.keyHash w.params (ofString "nt"),key:=Value.str (ofString "nt") k2,val:=.int ((wsOf x).nt:Int) tt },{ hash:=PyData.keyHash w.params (ofString "norm"),key:=Value.str (ofString "norm") k3,val:=.ref P },{ hash:=PyData.keyHash w.params (ofString "is_simple"),key:=Value.str (ofString "is_simple") k4,val:=.bool (decide (((wsOf x).cs.length:Int)<=1)) }] 5)::(P,{ cls:=Value.type "tuple",data:=Data.seq #[Value.ref T,Value.int ((wsOf x).b:Int) tb] })::(T,{ cls:=Value.type "tuple",data:=Data.seq vs.toArray })::news) (fun _=>True) (fun v n=>n=(a,instObj 83 d)::(d,dictOf [{ hash:=PyData.keyHash w.params (ofString "raw"),key:=Value.str (ofString "raw") k0,val:=.str x tx },{ hash:=PyData.keyHash w.params (ofString "n"),key:=Value.str (ofString "n") k1,val:=.int ((wsOf x).n:Int) tn },{ hash:=PyData.keyHash w.params (ofString "nt"),key:=Value.str (ofString "nt") k2,val:=.int ((wsOf x).nt:Int) tt },{ hash:=PyData.keyHash w.params (ofString "norm"),key:=Value.str (ofString "norm") k3,val:=.ref P },{ hash:=PyData.keyHash w.params (ofString "is_simple"),key:=Value.str (ofString "is_simple") k4,val:=.bool (decide (((wsOf x).cs.length:Int)<=1)) }] 5)::(P,{ cls:=Value.type "tuple",data:=Data.seq #[Value.ref T,Value.int ((wsOf x).b:Int) tb] })::(T,{ cls:=Value.type "tuple",data:=Data.seq vs.toArray })::news/\∃t,v=.int (colOf (wsOf x) sz) t):=by
 have hlen:=intsAre_len hv
 obtain⟨led,hled⟩:∃l,l=(a,instObj 83 d)::(d,dictOf [{ hash:=PyData.keyHash w.params (ofString "raw"),key:=Value.str (ofString "raw") k0,val:=.str x tx },{ hash:=PyData.keyHash w.params (ofString "n"),key:=Value.str (ofString "n") k1,val:=.int ((wsOf x).n:Int) tn },{ hash:=PyData.keyHash w.params (ofString "nt"),key:=Value.str (ofString "nt") k2,val:=.int ((wsOf x).nt:Int) tt },{ hash:=PyData.keyHash w.params (ofString "norm"),key:=Value.str (ofString "norm") k3,val:=.ref P },{ hash:=PyData.keyHash w.params (ofString "is_simple"),key:=Value.str (ofString "is_simple") k4,val:=.bool (decide (((wsOf x).cs.length:Int)<=1)) }] 5)::(P,{ cls:=Value.type "tuple",data:=Data.seq #[Value.ref T,Value.int ((wsOf x).b:Int) tb] })::(T,{ cls:=Value.type "tuple",data:=Data.seq vs.toArray })::news:=⟨_,rfl⟩
 rw[<-hled]
 have hsub:∀p∈(a,instObj 83 d)::(d,dictOf [{ hash:=PyData.keyHash w.params (ofString "raw"),key:=Value.str (ofString "raw") k0,val:=.str x tx },{ hash:=PyData.keyHash w.params (ofString "n"),key:=Value.str (ofString "n") k1,val:=.int ((wsOf x).n:Int) tn },{ hash:=PyData.keyHash w.params (ofString "nt"),key:=Value.str (ofString "nt") k2,val:=.int ((wsOf x).nt:Int) tt },{ hash:=PyData.keyHash w.params (ofString "norm"),key:=Value.str (ofString "norm") k3,val:=.ref P },{ hash:=PyData.keyHash w.params (ofString "is_simple"),key:=Value.str (ofString "is_simple") k4,val:=.bool (decide (((wsOf x).cs.length:Int)<=1)) }] 5)::(P,{ cls:=Value.type "tuple",data:=Data.seq #[Value.ref T,Value.int ((wsOf x).b:Int) tb] })::(T,{ cls:=Value.type "tuple",data:=Data.seq vs.toArray })::news,p∈led:=fun p hp=>hled▸hp
 dsimp only[Con,Pm]
 k_fill
 (set_option tactic.hygienic true in intros)
 rename_i hret
 refine wpAny_call ?_
 (set_option tactic.hygienic true in k_dflt cell_enter)
 rename Fr _ _ _ _=>F0
 rename News _ _ _ _=>N0
 refine Uc.J.start (gl_ok ‹_› ‹_›) F0 N0 rfl rfl (by ktr_units) ?_
 clear F0 N0
 rename_i qk ek
 intro C
 have ret:∀{m:Str->Option Value} {v:Value} {h:Heap} {tk:Nat} {nw:Led},(fun v n=>n=led/\∃t,v=.int (colOf (wsOf x) sz) t) v nw->Fr C.h₀ C.L h m->News C.h₀ C.L h nw->C.Q (.ret v) (C.sg h tk):=by
  intro m v h tk nw hv F N
  dsimp only[C,qk] at F N ⊢
  exact leaveK_ F N fun kF kN=>hret _ _ _ _ hv kF kN
 have hE:PassesOwn C.M C.A C.env C.E:=PassesOwn.leaving
 have hnt:AttrOk C led a (ofString "nt") (.int ((wsOf x).nt:Int) tt):=by
  intro m nw hs Q q h tk F N0
  have N:=News.sub (b:=(a,instObj 83 d)::(d,dictOf [{ hash:=PyData.keyHash w.params (ofString "raw"),key:=Value.str (ofString "raw") k0,val:=.str x tx },{ hash:=PyData.keyHash w.params (ofString "n"),key:=Value.str (ofString "n") k1,val:=.int ((wsOf x).n:Int) tn },{ hash:=PyData.keyHash w.params (ofString "nt"),key:=Value.str (ofString "nt") k2,val:=.int ((wsOf x).nt:Int) tt },{ hash:=PyData.keyHash w.params (ofString "norm"),key:=Value.str (ofString "norm") k3,val:=.ref P },{ hash:=PyData.keyHash w.params (ofString "is_simple"),key:=Value.str (ofString "is_simple") k4,val:=.bool (decide (((wsOf x).cs.length:Int)<=1)) }] 5)::(P,{ cls:=Value.type "tuple",data:=Data.seq #[Value.ref T,Value.int ((wsOf x).b:Int) tb] })::(T,{ cls:=Value.type "tuple",data:=Data.seq vs.toArray })::news) N0 fun p hp=>hs p (hsub p hp)
  clear ret hE
  walk_at "X"
  exact q _ _ F N0
 -- count,trailing=self.norm
 refine J.step fun h tk F N0=>?_
 have N:=News.sub (b:=(a,instObj 83 d)::(d,dictOf [{ hash:=PyData.keyHash w.params (ofString "raw"),key:=Value.str (ofString "raw") k0,val:=.str x tx },{ hash:=PyData.keyHash w.params (ofString "n"),key:=Value.str (ofString "n") k1,val:=.int ((wsOf x).n:Int) tn },{ hash:=PyData.keyHash w.params (ofString "nt"),key:=Value.str (ofString "nt") k2,val:=.int ((wsOf x).nt:Int) tt },{ hash:=PyData.keyHash w.params (ofString "norm"),key:=Value.str (ofString "norm") k3,val:=.ref P },{ hash:=PyData.keyHash w.params (ofString "is_simple"),key:=Value.str (ofString "is_simple") k4,val:=.bool (decide (((wsOf x).cs.length:Int)<=1)) }] 5)::(P,{ cls:=Value.type "tuple",data:=Data.seq #[Value.ref T,Value.int ((wsOf x).b:Int) tb] })::(T,{ cls:=Value.type "tuple",data:=Data.seq vs.toArray })::news) N0 hsub
 walk_at "X"
 refine J.next ?_ ‹_› (News.sub (b:=led) ‹_› fun p hp=>hled▸hp)
 refine J.gen [(ofString "count",.ref T),(ofString "trailing",.int ((wsOf x).b:Int) tb),(ofString "tabsize",.int (sz:Int) ts),(ofString "self",.ref a)] ⟨rfl,rfl,rfl,rfl,trivial⟩ fun u=>?_
 have hT:SeqIn led T vs:=.inr (hsub _ (.tail _ (.tail _ (.tail _ (.head _)))))
 clear hsub
 ((repeat(refine Uc.J.nil ?_));walk_at "a");intro t0
 refine' J.tab (TbOk.addI tb0 (x:=ofString "count") (.loc ?hm rfl rfl) hT hv) fun ht=>?_
 case hm=>exact rfl
 refine J.forR (σ:=Int×Tok) (a:=(sz:Int)) (b:=(((wsOf x).cs.length:Nat):Int)) (c:=1) (vs.length-sz) (fun _=>led)
  (fun c=>[(ofString "il",.int c.1 c.2),(ofString "count",.ref T),(ofString "tabsize",.int (sz:Int) ts),(ofString "trailing",.int ((wsOf x).b:Int) tb),(ofString "self",.ref a)])
  (fun i c=>c.1=ilSum (wsOf x).cs sz i) (0,t0) (range2 ht rfl rfl rfl ?ha ?hb) (rsmall (by omega) (by omega) (by omega) (by omega) (by omega) (by omega)) ?hn hE rfl (fun _=>rfl) ⟨rfl,rfl,rfl,rfl,rfl,trivial⟩ rfl ?turn ?done fun _ h=>h
 case ha=>walk_at "s";exact rfl
 case hb=>walk_at "s";exact rfl
 case hn=>
  unfold Builtin.Range.rangeSize
  rw[if_pos (by decide)]
  split<;>omega
 case turn=>
  clear ht
  intro i t
  refine fpLooR fun il t1=>?_
  intro u I o hi hR hne hit C1
  dsimp -zeta only at hR hne ⊢
  have hq:((sz:Int)+(i:Int)*1).fdiv (sz:Int)=(((sz+i) / sz:Nat):Int):=by
   rw[Int.fdiv_eq_ediv_of_nonneg _ (Int.natCast_nonneg _)];push_cast;rw[Int.mul_one]
  have hq2:(((sz+i) / sz:Nat):Int)<=2000:=Int.ofNat_le.mpr (Nat.le_trans (Nat.div_le_self _ _) (show sz+i<=2000 by omega))
  refine' J.tab (TbOk.addI tb0 (x:=ofString "count") (.loc ?hm rfl rfl) (hT.imp (fun⟨n,z⟩=>⟨n,List.mem_append_left _ z⟩) fun z=>List.mem_append_left _ z) hv) fun ht=>?_
  case hm=>exact rfl
  refine' J.asg_c ht ?jp rfl ?js ?jc fun t2=>?_
  case jp=>exact rfl
  case js=>exact rfl
  case jc=>
   refine⟨⟨⟨by omega,by omega⟩,by omega,by omega,by omega⟩,?_⟩
   rw[hq]
   exact⟨Int.le_trans (by decide) (Int.natCast_nonneg _),Int.le_trans hq2 (by decide)⟩
  refine J.tn (_,t2) ⟨rfl,rfl,rfl,rfl,rfl,trivial⟩ ?_ (fun p hp=>.inl (List.mem_map_of_mem hp)) fun _ h=>h
  show _=ilSum _ _ i+_
  rw[hR,hq,show((sz:Int)+(i:Int)*1).toNat=sz+i by omega]
 case done=>
  refine fpLooR fun il t1=>?_
  intro u hR
  dsimp only at hR ⊢
  refine' J.tab (TbOk.addA tb0 (x:=ofString "self") (.loc ?hm rfl rfl) hnt) fun ht=>?_
  case hm=>exact rfl
  ((repeat(refine Uc.J.nil ?_));walk_at "e")
  intro t h tk F N
  exact ret ⟨rfl,_,by rw[hR,hlen];rfl⟩ F N
end
end Uc
end
section
namespace Uc
noncomputable def rd_args:Arguments:=by
 refine(fun(_:f17_body[2]? =some (.Assign ?t (.Lambda ?a ?b ?s ?p) ?x))=>?a) ?h
 exact rfl
noncomputable def rd_body:Expr:=by
 refine(fun(_:f17_body[2]? =some (.Assign ?t (.Lambda ?a ?b ?s ?p) ?x))=>?b) ?h
 exact rfl
noncomputable def rd_scope:Scope:=by
 refine(fun(_:f17_body[2]? =some (.Assign ?t (.Lambda ?a ?b ?s ?p) ?x))=>?s) ?h
 exact rfl
noncomputable def rdQual:Str:="_law_lexer.<locals>.<lambda>"
noncomputable def rdO (pm:Value)(CC RC:Addr)(ct:Value):Obj:=kla_obj "<lambda>" rdQual rd_args rd_body rd_scope [(ofString "signs",CC)] pm RC ct
noncomputable abbrev fnO (fd:FuncData)(d:Option Addr):Obj:=⟨.type "function",d,.func fd,#[]⟩
set_option genInjectivity false in
set_option genSizeOf false in
structure Lex where
 X:Addr
 D:Addr
 PB:Addr
 SF:Addr
 SD:Addr
 RF:Addr
 RC:Addr
 CC:Addr
 SG:Addr
 fd:FuncData
 pm:Value
 ct:Value
 oc:Obj
 oC:Obj
 vc:Array Value
 tq:Tok
 tw:Tok
 k0:Tok
 k1:Tok
 k2:Tok
 k3:Tok
 kr:Tok
noncomputable abbrev lexDq (w:World)(q:Lex)(ln:Int)(tl:Tok):Obj:=dictOf [{ hash:=PyData.keyHash w.params (ofString "lineno"),key:=Value.str (ofString "lineno") q.k0,val:=.int ln tl },
  { hash:=PyData.keyHash w.params (ofString "instream"),key:=Value.str (ofString "instream") q.k1,val:=.ref q.SF },
  { hash:=PyData.keyHash w.params (ofString "whitespace"),key:=Value.str (ofString "whitespace") q.k2,val:=.str (ofString "\n\t\r ") q.tw },
  { hash:=PyData.keyHash w.params (ofString "pushback"),key:=Value.str (ofString "pushback") q.k3,val:=.ref q.PB }] 4
noncomputable abbrev lexSq (w:World)(q:Lex):Obj:=dictOf [{ hash:=PyData.keyHash w.params (ofString "read"),key:=Value.str (ofString "read") q.kr,val:=.ref q.RF }] 1
noncomputable abbrev lexLed (w:World)(q:Lex)(ln:Int)(tl:Tok)(ps:List Value)(pn:Nat)(ss:List Value)(sn:Nat):List (Addr×Obj):=
 (q.X,instObj 125 q.D)::(q.D,Uc.lexDq w q ln tl)::
 (q.PB,listOf ps.toArray pn)::(q.SF,fnO q.fd (some q.SD))::
 (q.SD,Uc.lexSq w q)::
 (q.RF,rdO q.pm q.CC q.RC q.ct)::(q.RC,q.oc)::(q.CC,q.oC)::(q.SG,listOf ss.toArray sn)::[]
structure LexOk (q:Lex) (news:List (Addr×Obj)):Prop where
 c1:q.oc.data=.fields q.vc
 c2:q.vc[1]? =some (.str rdQual q.tq)
 c3:q.oC.data=.cell (some (.ref q.SG))
 o1:q.CC<q.SG
 o2:q.SG<q.SF
 o3:q.SF<q.RC
 o4:q.RC<q.RF
 o5:q.RF<q.SD
 o6:q.SD<q.D
 o7:q.D<q.X
 o8:q.X<q.PB
 n1:∀p∈news,p.1≠q.D
 n2:∀p∈news,p.1≠q.PB
 n3:∀p∈news,p.1≠q.SG
section
variable (w:World)(p:Program)(loose:List Str)(mean:ExcName->Option Value)(mg mb:Str->Option Value)
theorem read_c (news:List (Addr×Obj))(q:Lex)(ln:Int)(tl:Tok)(ps:List Value)(pn:Nat)(ss:List Value)(sn:Nat)(ts:Tok)(sg:List Str)(hss:StrsAre ss sg)(hlen:ss.length<=100000)(ok:LexOk q news):
  Con w p loose mean mg mb q.RF 8 30 [.int 1 ts] (lexLed w q ln tl ps pn ss sn++news) (fun h=>CodeHd h 213 209) (fun v n=>∃sn' t,n=lexLed w q ln tl ps pn ss.tail sn'++news/\v=.str (sg.headD Str.empty) t):=by
 have o1:=ltN ok.o1
 have o2:=ltN ok.o2
 have o3:=ltN ok.o3
 have o4:=ltN ok.o4
 have o5:=ltN ok.o5
 have o6:=ltN ok.o6
 have o7:=ltN ok.o7
 have o8:=ltN ok.o8
 have n1:=ok.n1
 have n2:=ok.n2
 have n3:=ok.n3
 have c1:=ok.c1
 have c2:=ok.c2
 have c3:=ok.c3
 clear ok
 dsimp only[Con,Pm,lexLed,List.cons_append,List.nil_append]
 k_fill
 (set_option tactic.hygienic true in intros)
 rename_i hret
 refine wpAny_call ?_
 k_dflt (refine' kla_code ?k1 ?k2 ?k3 ?k4 ?k5 ?kA ?kF ?kK ?k6 ?k7 ?k8 ?k9 ?kB ?_ ?c2 ?c3 ?c4 ?c5;(case kA=>exact rfl);(case kF=>exact rfl);(case kK=>assumption);(case k1=>k_asm);(case k2=>k_asm);(case k3=>k_asm);(case k4=>k_asm);(case k5=>k_asm);(case k6=>k_mem);(case k7=>exact codeRec_news (by k_asm) (by k_mem) ‹_› ‹_›);(case k8=>ktr_room);(case k9=>exact rfl);(case c5=>decide);(case kB=>exact locs rfl);(case c2=>exact rfl);(case c3=>exact rfl);(case c4=>exact rfl);k_whole;intro g' L' h' FG' F' N' B' X' T';(try dsimp only);(try k_lift B');(try k_fold))
 unfold rd_body rd_scope
 try(try dsimp only)
 walk_at "X"
 cases ss with
 |nil=>
  cases hss
  refine Uc.ne_nil_ff ‹_› (by k_mem) (by k_mem) (by ktr_units) ?_
  walk_at "X"
  exact hret _ _ _ _ ⟨_,_,rfl,rfl⟩ ‹_› (News.sub ‹_› (by walk_at "I"))
 |cons s0 ss=>
  refine Uc.ne_nil_tt ‹_› (by k_mem) (by k_mem) (by ktr_units) ?_
  walk_at "X"
  obtain⟨y0,t0,ys,rfl,rfl,hvs⟩:∃y0 t0 ys,s0=Value.str y0 t0/\sg=y0::ys/\StrsAre ss ys:=by
   cases hss with
   |cons y t h=>exact⟨_,_,_,rfl,rfl,h⟩
  dsimp only[List.length_cons] at hlen
  have hsz:(Value.str y0 t0::ss).length<=sizeLine:=Nat.le_trans hlen (by decide)
  refine kl_popAt (its:=(Value.str y0 t0::ss).toArray) (k:=0) (p:=[]) (q:=ss) ‹_› ‹_› rfl (by rw[List.size_toArray];simp[seqIndex?]) rfl (by k_dflt k_upd) hsz ?_
  intro h' F' N'
  dsimp only[List.nil_append] at N'
  walk_at "X"
  exact hret _ _ _ _ ⟨_,_,rfl,rfl⟩ ‹_› (News.sub ‹_› (by walk_at "I"))
end
end Uc
end
section
namespace Uc
theorem slot_fn_sa:Slot "function" "__setattr__" "object.__setattr__":=.of (owner:="object") (n:="__setattr__") (by rw[typeLookup_type,builtinLookup_eq_fast];kernel_rfl) (by decide+kernel) (by decide+kernel) (by decide+kernel)
  (by first|exact .inl (by decide+kernel)|exact .inr (by decide+kernel)) (by rw[isSubtype_type];kernel_rfl)
theorem fn_mro:mroOf (.type "function")=pure [.type "function",.type "object"]:=by kernel_rfl
theorem fn_passes (self:Value):refuseLoop self "__setattr__" [.type "function",.type "object"]=pure ():=by kernel_rfl
theorem fn_noread:typeLookup (.type "function") (ofString "read")=pure none:=by rw[typeLookup_type,builtinLookup_eq_fast];kernel_rfl
section
variable {prog:Program}{w:World}{A:Around}{E:Value->Shared->Prop}{s:Shared}{h₀:Heap}{L:Addr}{m:Str->Option Value}
theorem fn_setattr {x:Addr}{fd:FuncData}{name:Str}{v:Value}{pre post:List (Addr×Obj)}{Q:Unit->Shared->Prop}(F:Fr h₀ L s.heap m)(N:News h₀ L s.heap (pre++(x,fnO fd none)::post))
  (h1:∀p∈pre,p.1≠x) (h2:∀p∈post,p.1≠x) (hname:typeLookup (.type "function") name=pure none)
  (h:∀h' d,Fr h₀ L h' m->News h₀ L h' ((d,dictOf [⟨PyData.keyHash w.params name,.str name (s.toks+1),v⟩] 1)::(pre++(x,fnO fd (some d))::post))->(∀p∈pre++(x,fnO fd none)::post,p.1<d)->Q () { s with heap:=h',toks:=s.toks+2 }):
  wpAny (model prog w) A (setAttr (.ref x) name v) Q E s:=by
 have D:=(N (x,fnO fd none) (by simp)).1
 have LT:Looks (model prog w) s.heap (typeOf (.ref x)) (.type "function"):=(Looks.ld (part:=some headPart) D).andThen .now
 refine wpAny_bind (wpAny_mkText (wpAny_bind (wpAny_bind (wpAny_bind (LT _ _ _ _ (fun _ _ e=>e) ((Looks.of_pure slot_fn_sa.lookup (h:=s.heap)) _ _ _ _ (fun _ _ e=>e) (wpAny_holding ?_)))))))
 rw[slot_fn_sa.bind]
 refine wpAny_bind (wpAny_pure (wpAny_bind (wpAny_call (codeAny_mono (R:=fun r s'=>r=.ok (.ret .none)/\Q () s') ?_ fun r s' z=>?_))))
 rotate_left
 ·obtain⟨rfl,z⟩:=z
  exact wpAny_pure (wpAny_pure z)
 have SF:=PySem.F.store_object
 refine codeAny_call_builtin SF.slot.plain SF.entry (slot_fn_sa.check _ _ _ _ _ _ _ _ ⟨_,D,rfl⟩ (SF.args _ _ _) ?_)
 show wpAny _ _ (Builtin.«object.__setattr__» ⟨[.ref x,.str name s.toks,v],[]⟩) _ _ _
 rw[osa_eq,refuse_eq]
 refine wpAny_bind (wpAny_bind (LT _ _ _ _ (fun _ _ e=>e) (wpAny_bind ?_)))
 rw[fn_mro]
 refine wpAny_pure ?_
 rw[fn_passes]
 refine wpAny_pure (wpAny_bind (LT _ _ _ _ (fun _ _ e=>e) (wpAny_bind ?_)))
 rw[hname]
 refine wpAny_pure (wpAny_bind (wpAny_pure ?_))
 have ne:x≠s.heap.objs.size:=Nat.ne_of_lt (Heap.lt_size D)
 have F1:=F.push (o:={ cls:=.type "dict",data:=.dict #[] })
 have N1:News h₀ L (s.heap.push { cls:=.type "dict",data:=.dict #[] }) (((s.heap.objs.size,{ cls:=.type "dict",data:=.dict #[] })::pre)++(x,fnO fd none)::post):=fun p hp=>by
  rw[List.cons_append] at hp
  rcases List.mem_cons.mp hp with rfl|hp
  ·exact⟨Heap.get?_push_size _ rfl,fun e=>absurd F.ns.lt (e▸Nat.lt_irrefl _),next_is_new F⟩
  ·exact⟨Heap.get?_push_of_some _ (N p hp).1,(N p hp).2⟩
 obtain⟨F2,N2⟩:=news_upd (f:=fun o=>{ o with dict:=some s.heap.objs.size }) F1 N1 (fun p hp=>by
  rcases List.mem_cons.mp hp with rfl|hp
  ·exact ne.symm
  ·exact h1 p hp) h2 (o':=fnO fd (some s.heap.objs.size)) rfl rfl
 have F3N3:=news_upd (pre:=[]) (f:=Obj.putName name (PyData.keyHash w.params name) (.str name (s.toks+1)) v) F2 (by rw[List.nil_append];exact N2) (fun _ h=>nomatch h) (fun p hp=>by
  have hp':p∈pre++(x,fnO fd (some s.heap.objs.size))::post:=hp
  rcases List.mem_append.mp hp' with q|q
  ·exact Nat.ne_of_lt (Heap.lt_size (N p (List.mem_append_left _ q)).1)
  ·rcases List.mem_cons.mp q with rfl|q
   ·exact ne
   ·exact Nat.ne_of_lt (Heap.lt_size (N p (List.mem_append_right _ (.tail _ q))).1)) (o':=dictOf [⟨PyData.keyHash w.params name,.str name (s.toks+1),v⟩] 1) (by
  show Obj.putName _ _ _ _ (dictOf [] 0)=_
  rw[putName_dict];rfl) rfl
 obtain⟨F3,N3⟩:=F3N3
 refine wpAny_bind (wpAny_pure (wpAny_bind (wpAny_bind (wpAny_loadPart D ?_))))
 (try dsimp only)
 refine wpAny_bind (wpAny_alloc ?_)
 refine wpAny_bind (wpAny_update (o:=fnO fd none) (Heap.get?_push_of_some _ D) ?_)
 have D2:=(N2 (s.heap.objs.size,{ cls:=.type "dict",data:=.dict #[] }) (.head _)).1
 have D3:=(N3 (s.heap.objs.size,dictOf [⟨PyData.keyHash w.params name,.str name (s.toks+1),v⟩] 1) (by simp)).1
 show wpAny _ _ (dictMade (.type "function") x s.heap.objs.size) _ _ _
 refine wpAny_pure (a:=some s.heap.objs.size) (wpAny_bind (wpAny_pure (wpAny_bind ?_)))
 unfold nsSet
 refine wpAny_bind (wpAny_bind (wpAny_askSetting (wpAny_pure (wpAny_bind (wpAny_mkText (wpAny_bind (wpAny_loadPart D2 ?_)))))))
 (try dsimp only)
 have c:((!(#[]:Array DictEntry).any (·.key.isStr name)&&(#[]:Array DictEntry).any (·.refKey)))=false:=by simp
 rw[aRefKeyMayBeTheName_at,c]
 refine wpAny_updatePart D2 ?_
 refine wpAny_bind (wpAny_lookBehind D3 (pastItsLine_dict (by rw[List.size_toArray,sizeLine_eq];exact Nat.le_add_left 1 16777216)) ?_)
 exact wpAny_pure ⟨rfl,h _ _ F3 N3 (fun p hp=>by
  rcases List.mem_append.mp hp with q|q
  ·exact Heap.lt_size (N p (List.mem_append_left _ q)).1
  ·rcases List.mem_cons.mp q with rfl|q
   ·exact Heap.lt_size D
   ·exact Heap.lt_size (N p (List.mem_append_right _ (.tail _ q))).1)⟩
theorem fn_setattrU {x:Addr}{fd:FuncData}{name:Str}{v:Value}{news:List (Addr×Obj)}{g:Obj->List (Addr×Obj)}{Q:Unit->Shared->Prop}(F:Fr h₀ L s.heap m)(N:News h₀ L s.heap news)(U:UpdF x (fnO fd none) news g)
  (hname:typeLookup (.type "function") name=pure none)
  (h:∀h' d,Fr h₀ L h' m->News h₀ L h' ((d,dictOf [⟨PyData.keyHash w.params name,.str name (s.toks+1),v⟩] 1)::g (fnO fd (some d)))->(∀p∈news,p.1<d)->Q () { s with heap:=h',toks:=s.toks+2 }):
  wpAny (model prog w) A (setAttr (.ref x) name v) Q E s:=by
 obtain⟨own,rest,rfl,hg,h1,h2⟩:=U.split
 exact fn_setattr F N h1 h2 hname fun h' d F' N' l=>h h' d F' (by rw[hg];exact N') l
theorem slot_fn_ga:Slot "function" "__getattribute__" "object.__getattribute__":=.of (owner:="object") (n:="__getattribute__") (by rw[typeLookup_type,builtinLookup_eq_fast];kernel_rfl) (by decide+kernel) (by decide+kernel) (by decide+kernel)
  (by first|exact .inl (by decide+kernel)|exact .inr (by decide+kernel)) (by rw[isSubtype_type];kernel_rfl)
theorem fn_noga:typeLookup (.type "function") "__getattr__"=pure none:=by rw[typeLookup_type,builtinLookup_eq_fast];kernel_rfl
theorem fn_getattr {x d b:Addr}{fd:FuncData}{name:Str}{hs:Int}{k:Tok}{news:List (Addr×Obj)}{expr:Bool}{Q:Value->Shared->Prop}(N:News h₀ L s.heap news)(hx:(x,fnO fd (some d))∈news)
  (hd:(d,dictOf [⟨hs,.str name k,.ref b⟩] 1)∈news) (hname:typeLookup (.type "function") name=pure none) (h:Q (.ref b) { s with toks:=s.toks+1 }):
  wpAny (model prog w) A (getAttr (.ref x) name expr) Q E s:=by
 have D:=(N _ hx).1
 have D2:=(N _ hd).1
 have LT:Looks (model prog w) s.heap (typeOf (.ref x)) (.type "function"):=(Looks.ld (part:=some headPart) D).andThen .now
 have LL:lookIn name (dictOf [⟨hs,.str name k,.ref b⟩] 1)=some (some (.ref b)):=by
  unfold lookIn
  simp[dictOf,Value.isStr]
 unfold getAttr getAttrBy
 refine wpAny_bind (wpAny_mkText (wpAny_holding (wpAny_bind (LT _ _ _ _ (fun _ _ e=>e) (wpAny_bind ?_)))))
 rw[slot_fn_ga.lookup]
 refine wpAny_pure ?_
 show wpAny _ _ (getAttrByItsOwn _ _ _ _ _ _) _ _ _
 refine wpAny_bind (m:=hookBefore _) (wpAny_pure ?_)
 refine wpAny_bind (wpAny_attempt (wpAny_holding ?_))
 rw[show callGetattribute (.ref x) (.str name s.toks) (.builtin "object.__getattribute__") expr=boundAndCalled (.builtin "object.__getattribute__") (.ref x) (.str name s.toks) from by cases expr<;>rfl]
 unfold boundAndCalled
 rw[slot_fn_ga.bind]
 refine wpAny_bind (wpAny_pure (wpAny_call (codeAny_mono (R:=fun r s'=>r=.ok (.ret (.ref b))/\s'={ s with toks:=s.toks+1 }) ?_ fun r s' z=>?_)))
 rotate_left
 ·obtain⟨rfl,rfl⟩:=z
  exact wpAny_pure h
 refine codeAny_call_builtin slot_fn_ga.plain PySem.F.entry_object_getattribute (slot_fn_ga.check _ _ _ _ _ _ _ _ ⟨_,D,rfl⟩ (PySem.F.args_object_getattribute_2 _ _) ?_)
 show wpAny _ _ (Builtin.«object.__getattribute__» ⟨[.ref x,.str name s.toks],[]⟩) _ _ _
 unfold Builtin.«object.__getattribute__»
 refine wpAny_bind (m:=slotArgs _ _ _) (wpAny_pure ?_)
 refine wpAny_bind (m:=Builtin.ObjectAttr.attrName _) (wpAny_pure (wpAny_bind (LT _ _ _ _ (fun _ _ e=>e) (wpAny_bind ?_))))
 unfold Builtin.ObjectAttr.find
 rw[hname]
 refine wpAny_bind (wpAny_pure (wpAny_bind (m:=Builtin.ObjectAttr.getOf _) (wpAny_pure (wpAny_bind (m:=Builtin.ObjectAttr.dataDescriptor? _ _) (wpAny_pure ?_)))))
 show wpAny _ _ (Builtin.ObjectAttr.ownThenClass _ _ _ _) _ _ _
 unfold Builtin.ObjectAttr.ownThenClass Builtin.ObjectAttr.inOwnDict Builtin.ObjectAttr.ownDict
 refine wpAny_bind (wpAny_bind (wpAny_bind (wpAny_loadPart D ?_)))
 refine wpAny_bind (wpAny_loadPart D ?_)
 refine wpAny_pure ?_
 refine wpAny_bind (wpAny_loadPart D2 ?_)
 rw[nsLook_of LL]
 refine wpAny_pure (wpAny_bind (wpAny_rule (wpAny_pure ?_)))
 exact wpAny_pure ⟨rfl,rfl⟩
theorem fn_getMethod {x d b:Addr}{fd:FuncData}{name:Str}{hs:Int}{k:Tok}{news:List (Addr×Obj)}{pl:Sem Bool}{Q:Value×List Value->Shared->Prop}(N:News h₀ L s.heap news)(hx:(x,fnO fd (some d))∈news)
  (hd:(d,dictOf [⟨hs,.str name k,.ref b⟩] 1)∈news) (hname:typeLookup (.type "function") name=pure none) (h:Q (.ref b,[]) { s with toks:=s.toks+1 }):
  wpAny (model prog w) A (getMethod (.ref x) name pl) Q E s:=by
 have D:=(N _ hx).1
 have LT:Looks (model prog w) s.heap (typeOf (.ref x)) (.type "function"):=(Looks.ld (part:=some headPart) D).andThen .now
 unfold getMethod
 refine wpAny_bind (wpAny_bind (LT _ _ _ _ (fun _ _ e=>e) ?_))
 rw[slot_fn_ga.lookup]
 refine wpAny_pure ?_
 show wpAny _ _ (if _ then _ else _) _ _ _
 rw[if_neg (by decide+kernel)]
 refine wpAny_bind (wpAny_bind (LT _ _ _ _ (fun _ _ e=>e) ?_))
 rw[fn_noga]
 refine wpAny_pure ?_
 refine wpAny_bind (wpAny_bind (LT _ _ _ _ (fun _ _ e=>e) ?_))
 rw[hname]
 refine wpAny_pure ?_
 refine wpAny_bind (fn_getattr N hx hd hname ?_)
 exact wpAny_pure h
end
end Uc
end
section
namespace Uc
noncomputable abbrev ConC (w:World)(p:Program)(loose:List Str)(mean:ExcName->Option Value)(mg mb:Str->Option Value)(f:Addr)(d u:Nat)(vs:List Value)(news:List (Addr×Obj))(pre:Heap->Prop)(R:Value->List (Addr×Obj)->Prop):Prop:=
 ∀(dp un:Nat) (gd:Option (List Code)) (cn:Str) (cs:Scope) (a:Addr) (ccd:Value) (cl:List (Str×Addr)) (outer:List Env) (A₀:Around) (base h₀:Heap) (L:Addr) (m:Str->Option Value) (s:Shared) (Q E:Value->Shared->Prop),
  Below A₀ base outer h₀->Fr h₀ L s.heap m->(K w.params).In h₀->News h₀ L s.heap news->Top p loose mean mg mb h₀->cs.kind=.function->pre base->dp+d<recursionLimit->un+u<cLine->
  (∀v news' h' tk',R v news'->Fr h₀ L h' m->News h₀ L h' news'->Q v { s with heap:=h',toks:=tk' })->
  codeAny (model Pm w) (ktrTop dp un gd cn cs L a ccd cl outer) (.call (.ref f) ⟨vs,[]⟩) (fun r s'=>match r with| .ok (.ret v)=>Q v s'| .ok _=>False| .error e=>E e s') s
theorem ConC.con {w:World}{p:Program}{loose:List Str}{mean:ExcName->Option Value}{mg mb:Str->Option Value}{f:Addr}{d u:Nat}{vs:List Value}{news:List (Addr×Obj)}{pre:Heap->Prop}{R:Value->List (Addr×Obj)->Prop}(h:ConC w p loose mean mg mb f d u vs news pre R):Con w p loose mean mg mb f d u vs news pre R:=
 fun dp un gd cn cs a ccd cl outer A₀ base h₀ L m s Q E a1 a2 a3 a4 a5 a6 a7 a8 a9 a10=>wpAny_call (h dp un gd cn cs a ccd cl outer A₀ base h₀ L m s Q E a1 a2 a3 a4 a5 a6 a7 a8 a9 a10)
section
variable (w:World)(p:Program)(loose:List Str)(mean:ExcName->Option Value)(mg mb:Str->Option Value)
theorem read_charC (news:List (Addr×Obj))(q:Lex)(ln:Int)(tl:Tok)(ps:List Value)(pn:Nat)(ss:List Value)(sn:Nat)(sg:List Str)(hss:StrsAre ss sg)(hlen:ss.length<=100000)(hln:0<=ln/\ln<=1000000)(ok:LexOk q news):
  ConC w p loose mean mg mb 108 12 40 [.ref q.X] (lexLed w q ln tl ps pn ss sn++news) (fun h=>CodeHd h 213 209) (fun v n=>∃tl' sn' t,n=lexLed w q (if sg.headD Str.empty=ofString "\n" then ln+1 else ln) tl' ps pn ss.tail sn'++news/\v=.str (sg.headD Str.empty) t):=by
 have o1:=ltN ok.o1
 have o2:=ltN ok.o2
 have o3:=ltN ok.o3
 have o4:=ltN ok.o4
 have o5:=ltN ok.o5
 have o6:=ltN ok.o6
 have o7:=ltN ok.o7
 have o8:=ltN ok.o8
 have n1:=ok.n1
 have n2:=ok.n2
 have n3:=ok.n3
 dsimp only[ConC,Pm,lexLed,List.cons_append,List.nil_append]
 k_fill
 (set_option tactic.hygienic true in intros)
 rename_i hret
 k_dflt cell_enter
 (refine Uc.letAE ?_;intro AA EE)
 repeat' (first|(walk_at "P")|(walk_at "V";first|(((with_reducible show wpAny _ _ (getMethod (Value.ref _) (ofString "read") _) _ _ _);(refine Uc.fn_getMethod ‹_› (by k_dflt k_mem) (by k_dflt k_mem) Uc.fn_noread ?_)))|(walk_at "T")))
 (refine read_c w p loose mean mg mb news q ln tl ps pn ss sn _ sg hss hlen ok _ _ _ _ _ _ _ _ _ _ _ _ _ _ _ _ _ ‹_› ‹_› ‹_› ‹_› ‹_› (by first|assumption|rfl) ?pre (by walk_at "r") (by walk_at "u") ?_);(case pre=>first|exact trivial|assumption)
 first|refine kE2nv ?_|refine kE2vn ?_
 intro sn' t' h' tk' F N
 dsimp only[lexLed,List.cons_append,List.nil_append] at N
 walk_at "X"
 ·rename (_==_)=true=>hc
  rw[if_pos (beq_iff_eq.mp hc)] at hret
  exact hret _ _ _ _ ⟨_,_,_,rfl,rfl⟩ ‹_› ‹_›
 ·rename (_==_)=false=>hc
  rw[if_neg (beq_eq_false_iff_ne.mp hc)] at hret
  exact hret _ _ _ _ ⟨_,_,_,rfl,rfl⟩ ‹_› ‹_›
end
end Uc
end
section
namespace Uc
noncomputable abbrev itO (q:Addr)(t:Tok):Obj:={ cls:=.type "callable_iterator",data:=.fields #[.ref q,.str (ofString "") t,.bool false] }
noncomputable abbrev itE:Obj:={ cls:=.type "callable_iterator",data:=.fields #[.none,.none,.bool true] }
theorem slot_ci_next:Slot "callable_iterator" "__next__" "callable_iterator.__next__":=.of (owner:="callable_iterator") (n:="__next__") (by rw[typeLookup_type,builtinLookup_eq_fast];kernel_rfl) (by decide+kernel) (by decide+kernel) (by decide+kernel)
  (by first|exact .inl (by decide+kernel)|exact .inr (by decide+kernel)) (by rw[isSubtype_type];kernel_rfl)
theorem entry_ci_next:entryFor table "callable_iterator.__next__"=some Builtin.«callable_iterator.__next__» :=entryFor_of_tree (by kernel_rfl)
theorem args_ci_next (a:Value):argsOk "callable_iterator.__next__" ⟨[a],[]⟩:=by unfold argsOk;kernel_rfl
theorem entry_iter:entryFor table "iter"=some Builtin.«iter» :=entryFor_of_tree (by kernel_rfl)
theorem args_iter2 (a b:Value):argsOk "iter" ⟨[a,b],[]⟩:=by unfold argsOk;kernel_rfl
theorem meth_call:∃v,typeLookup (.type "method") "__call__"=pure (some v):=⟨.builtin "method.__call__",by rw[typeLookup_type,builtinLookup_eq_fast];kernel_rfl⟩
section
variable {prog:Program}{w:World}{A:Around}{E:Value->Shared->Prop}{s:Shared}{h₀:Heap}{L:Addr}{m:Str->Option Value}
theorem iter_make {q:Addr}{f x:Value}{t:Tok}{y:Str}{news:List (Addr×Obj)}{Q:Value->Shared->Prop}(F:Fr h₀ L s.heap m)(N:News h₀ L s.heap news)(hq:(q,methodObj f x)∈news)
  (h:∀h' I,Fr h₀ L h' m->News h₀ L h' ((I,{ cls:=.type "callable_iterator",data:=.fields #[.ref q,.str y t,.bool false] })::news)->(∀p∈news,p.1<I)->Q (.ref I) { s with heap:=h' }):
  wpAny (model prog w) A (call (.builtin "iter") [.ref q,.str y t]) Q E s:=by
 have D:=(N _ hq).1
 have LT:Looks (model prog w) s.heap (typeOf (.ref q)) (.type "method"):=(Looks.ld (part:=some headPart) D).andThen .now
 obtain⟨mc,hmc⟩:=meth_call
 refine PySem.Calls.call_function_entry (by decide+kernel) (by decide+kernel) entry_iter (args_iter2 _ _) ?_
 unfold Builtin.«iter»
 refine wpAny_bind (m:=someArgs _ _ _ _) (wpAny_pure ?_)
 (try dsimp only)
 refine wpAny_bind (wpAny_bind (LT _ _ _ _ (fun _ _ e=>e) ?_))
 rw[hmc]
 refine wpAny_pure ?_
 refine wpAny_bind (wpAny_rule (wpAny_bind ?_))
 refine wpAny_newObj_type (wpAny_pure ⟨_,rfl,h _ _ (F.push _) (fun p hp=>?_) fun p hp=>Heap.lt_size (N p hp).1⟩) (by size_fits)
 rcases List.mem_cons.mp hp with rfl|hp
 ·exact⟨Heap.get?_push_size _ rfl,fun e=>absurd F.ns.lt (e▸Nat.lt_irrefl _),next_is_new F⟩
 ·exact⟨Heap.get?_push_of_some _ (N p hp).1,(N p hp).2⟩
theorem iter_make2 {q:Addr}{f x:Value}{t:Tok}{rest:List (Addr×Obj)}{Q:Value->Shared->Prop}(F:Fr h₀ L s.heap m)(N:News h₀ L s.heap ((q,methodObj f x)::rest))(hl:AllLt q rest)
  (h:∀q₀ t₀ h' I,Fr h₀ L h' m->News h₀ L h' ((I,itO q₀ t₀)::(q₀,methodObj f x)::rest)->AllLt q₀ rest->q₀<I->Q (.ref I) { s with heap:=h' }):
  wpAny (model prog w) A (call (.builtin "iter") [.ref q,.str (ofString "") t]) Q E s:=
 iter_make F N (.head _) fun h' I F' N' l=>h q t h' I F' N' hl (l _ (.head _))
theorem wpAny_borrowed {M:Model}{f:Value}{pos:List Value}{Q:Value->Shared->Prop}(hc:codeAny M A (.call f ⟨pos,[]⟩) (fun r s'=>match r with| .ok (.ret v)=>Q v s'| .ok _=>False| .error e=>E e s') s):
  wpAny M A (callBorrowed f pos) Q E s:=fun Γ p hΓ=>by
 unfold callBorrowed
 rw[Sem.wp_call]
 refine wpCode_mono (fun r s' h=>?_) (hc _ p rfl (hΓ.enter _ none p (by intro x;cases x)))
 cases r with
 |error e=>exact h
 |ok f=>cases f with
  |ret v=>exact h
  |_=>exact h.elim
theorem meth_borrows {q f:Addr}{x:Value}{fo:Obj}{fd:FuncData}{M:Model}{Q:Bool->Shared->Prop}(hq:s.heap.get? q=some (methodObj (.ref f) x))(hf:s.heap.get? f=some fo)(hd:fo.data=.func fd)(h:Q true s):
  wpAny M A (borrowsExactly (.ref q)) Q E s:=by
 unfold borrowsExactly
 refine wpAny_bind (wpAny_load hq ?_)
 (try dsimp only)
 rw[if_pos (by decide)]
 refine wpAny_bind (wpAny_load hf ?_)
 rw[hd]
 exact wpAny_pure h
theorem stop_it {α:Type}{M:Model}{Q:α->Shared->Prop}(hh:A.handled=none)(h:∀h' e,(∀b o,s.heap.get? b=some o->h'.get? b=some o)->({ s with heap:=h' }:Shared).TypeIs (.ref e) "StopIteration"->E (.ref e) { s with heap:=h' }):
  wpAny M A (newExc (.type "StopIteration") []>>=fun e=>(raiseNew e:Sem α)) Q E s:=by
 refine wpAny_bind ?_
 simp only[newExc,newTuple]
 refine wpAny_bind (wpAny_newObj_type ?_ (by size_fits))
 refine wpAny_bind (m:=firstArgMember _ _) (wpAny_of_eq (a:=Value.none) (by first|rfl|(simp only[firstArgMember];rfl)) ?_)
 refine wpAny_newObj_type ?_ (by size_fits)
 delta raiseNew
 refine wpAny_bind (wpAny_handled ?_)
 rw[hh]
 refine wpAny_bind (wpAny_pure (wpAny_throw ?_))
 exact h _ _ (fun b o e=>Heap.get?_push_of_some _ (Heap.get?_push_of_some _ e)) ⟨_,Heap.get?_push_size _ rfl,rfl⟩
theorem next_dead {I:Addr}{Q:Option Value->Shared->Prop}(hh:A.handled=none)(hI:s.heap.get? I=some itE)(h:∀h',(∀b o,s.heap.get? b=some o->h'.get? b=some o)->Q none { s with heap:=h' }):
  wpAny (model prog w) A (pyNext (.ref I)) Q E s:=by
 have hT:s.TypeIs (.ref I) "callable_iterator":=⟨_,hI,rfl⟩
 unfold pyNext
 refine wpAny_bind (wpAny_attempt (wpAny_callSpecial?_slot (name:=ofString "__next__") hT slot_ci_next (wpAny_call_entry slot_ci_next hT entry_ci_next ?_ (args_ci_next _))))
 unfold Builtin.«callable_iterator.__next__»
 refine wpAny_bind (m:=slotArgs _ _ _) (wpAny_pure ?_)
 refine wpAny_bind (wpAny_field hI rfl (x:=.bool true) rfl ?_)
 show wpAny _ _ (if _ then _ else _) _ _ _
 rw[if_pos (by decide)]
 refine wpAny_bind (wpAny_rule ?_)
 refine wpAny_bind ?_
 refine stop_it (A:=A.in1) hh fun h' e hk hT'=>?_
 refine wpAny_bind (wpAny_isInstance (T:="StopIteration") (b:=true) hT' isSubtype_stop ?_)
 exact wpAny_pure (h _ hk)
theorem next_live {I q f:Addr}{x:Value}{t:Tok}{fo:Obj}{fd:FuncData}{Q:Option Value->Shared->Prop}(hh:A.handled=none)(hI:s.heap.get? I=some (itO q t))(hq:s.heap.get? q=some (methodObj (.ref f) x))(hf:s.heap.get? f=some fo)(hd:fo.data=.func fd)
  (h:codeAny (model prog w) A.in1 (.call (.ref f) ⟨[x],[]⟩) (fun r s'=>∃y u,r=.ok (.ret (.str y u))/\s'.heap.get? I=some (itO q t)/\s'.heap.get? q=some (methodObj (.ref f) x)/\s'.heap.get? f=some fo/\
   (y≠ofString ""->Q (some (.str y u)) s')/\(y=ofString ""->∀h',(∀b o,b≠I->s'.heap.get? b=some o->h'.get? b=some o)->h'.get? I=some itE->Q none { s' with heap:=h' })) s):
  wpAny (model prog w) A (pyNext (.ref I)) Q E s:=by
 have hT:s.TypeIs (.ref I) "callable_iterator":=⟨_,hI,rfl⟩
 unfold pyNext
 refine wpAny_bind (wpAny_attempt (wpAny_callSpecial?_slot (name:=ofString "__next__") hT slot_ci_next (wpAny_call_entry slot_ci_next hT entry_ci_next ?_ (args_ci_next _))))
 unfold Builtin.«callable_iterator.__next__»
 refine wpAny_bind (m:=slotArgs _ _ _) (wpAny_pure ?_)
 refine wpAny_bind (wpAny_field hI rfl (x:=.bool false) rfl ?_)
 show wpAny _ _ (if _ then _ else _) _ _ _
 rw[if_neg (by decide)]
 refine wpAny_bind (wpAny_field hI rfl (x:=.ref q) rfl ?_)
 refine wpAny_bind (wpAny_attempt ?_)
 unfold callOutOfASlot
 refine wpAny_bind (meth_borrows hq hf hd ?_)
 rw[if_pos rfl]
 refine wpAny_borrowed (method_call hq (codeAny_mono h fun r s' z=>?_))
 (refine Uc.ex2 z fun y u=>Uc.an6 fun e1q hI' hq' hf' z1 z2=>?_;clear z;subst e1q)
 (try dsimp only)
 refine wpAny_bind (wpAny_field hI' rfl (x:=.bool false) rfl ?_)
 show wpAny _ _ (if _ then _ else _) _ _ _
 rw[if_neg (by decide)]
 refine wpAny_bind (wpAny_field hI' rfl (x:=.str (ofString "") t) rfl ?_)
 refine wpAny_bind (wpAny_holding (eqBool_str ?_))
 by_cases hy:y=ofString ""
 ·subst hy
  rw[show(!(ofString ""==ofString ""))=false from by simp]
  rw[if_neg (by decide)]
  refine wpAny_bind (wpAny_rule ?_)
  refine wpAny_bind ?_
  show wpAny _ _ (field (.ref I) 0>>=_) _ _ _
  refine wpAny_bind (wpAny_field hI' rfl (x:=.ref q) rfl ?_)
  refine wpAny_bind ?_
  unfold slotLetsGo
  (try dsimp only)
  refine wpAny_bind (meth_borrows hq' hf' hd ?_)
  rw[if_pos rfl]
  refine wpAny_pure ?_
  refine wpAny_bind (wpAny_setField hI' rfl (Nat.lt_of_sub_eq_succ rfl) ?_)
  have h1:=Heap.get?_update_self (Obj.mapFields (·.setIfInBounds 0 .none)) hI' rfl
  refine wpAny_bind (wpAny_setField h1 rfl (Nat.lt_of_sub_eq_succ rfl) ?_)
  have h2:=Heap.get?_update_self (Obj.mapFields (·.setIfInBounds 1 .none)) h1 rfl
  refine wpAny_setField h2 rfl (Nat.lt_of_sub_eq_succ rfl) ?_
  have h3:=Heap.get?_update_self (Obj.mapFields (·.setIfInBounds 2 (.bool true))) h2 rfl
  refine stop_it (A:=A.in1) hh fun h' e hk hT'=>?_
  refine wpAny_bind (wpAny_isInstance (T:="StopIteration") (b:=true) hT' isSubtype_stop ?_)
  refine wpAny_pure (z2 rfl h' (fun b o hb e=>hk _ _ ?_) (hk _ _ h3))
  exact(Heap.get?_update_ne _ _ _ _ hb).trans ((Heap.get?_update_ne _ _ _ _ hb).trans ((Heap.get?_update_ne _ _ _ _ hb).trans e))
 ·rw[show(!(ofString ""==y))=true from by simp;exact fun e=>hy e.symm]
  rw[if_pos rfl]
  exact wpAny_pure ⟨_,rfl,wpAny_pure (z1 hy)⟩
theorem slot_ci_iter:Slot "callable_iterator" "__iter__" "callable_iterator.__iter__":=.of (owner:="callable_iterator") (n:="__iter__") (by rw[typeLookup_type,builtinLookup_eq_fast];kernel_rfl) (by decide+kernel) (by decide+kernel) (by decide+kernel)
  (by first|exact .inl (by decide+kernel)|exact .inr (by decide+kernel)) (by rw[isSubtype_type];kernel_rfl)
theorem entry_ci_iter:entryFor table "callable_iterator.__iter__"=some Builtin.«dict_keyiterator.__iter__» :=
 entryFor_alias (id':="dict_keyiterator.__iter__") (by kernel_rfl) (by first|rfl|decide+kernel|(unfold String.splitOn;simp+decide [String.splitOnAux])) (by decide+kernel) (by kernel_rfl)
theorem args_ci_iter (a:Value):argsOk "callable_iterator.__iter__" ⟨[a],[]⟩:=by unfold argsOk;kernel_rfl
theorem ci_self {I:Addr}{Q:Value->Shared->Prop}(hT:s.TypeIs (.ref I) "callable_iterator")(h:Q (.ref I) s):wpAny (model prog w) A (pyIter (.ref I)) Q E s:=by
 refine wpAny_pyIter_slot hT slot_ci_iter (wpAny_call_entry slot_ci_iter hT entry_ci_iter ?_ (args_ci_iter _))
 show wpAny _ _ (ret (.ref I)) _ _ s
 exact wpAny_pure ⟨_,rfl,"callable_iterator",_,hT,slot_ci_next.lookup,h⟩
theorem for_own {env:Env}{Q:Flow->Shared->Prop}{σ:Type}{x:Str}{px:Pos}{body:List Stmt}{m₀:Str->Option Value}(I:Addr)(led:σ->Led)(ps:σ->Nms)(P:σ->Prop)(Y:Value->σ->Prop)(Z:σ->Prop)(μ:σ->Nat)(c₀:σ)
  (hx:env.kindOf x=some .local) (hp':(env.scope.kind==.class||(env.scope.kind==.module&&env.locals !=env.globals))=false)
  (F:Fr h₀ env.locals s.heap m₀) (N:News h₀ env.locals s.heap (led c₀)) (hk:Has m₀ (ps c₀)) (hp:P c₀)
  (turn:∀(c:σ) (u:Str->Option Value) h tk,P c->Fr h₀ env.locals h (fm u (ps c))->News h₀ env.locals h (led c)->
   wpAny (model prog w) A (pyNext (.ref I)) (fun r s₂=>match r with
    |none=>Got h₀ env.locals led ps Z s s₂
    |some v=>Got h₀ env.locals led ps (fun c'=>Y v c'/\μ c'<μ c) s s₂) E { s with heap:=h,toks:=tk })
  (bodyT:∀(c:σ) v (u:Str->Option Value) h tk,Y v c->Fr h₀ env.locals h (fun y=>if y=x then some v else fm u (ps c) y)->News h₀ env.locals h (led c)->
   wpAny (model prog w) A (execs body env) (fun f s'=>match f with
    | .ret v=>Q (.ret v) s'
    | .brk=>Q .next s'
    |_=>Got h₀ env.locals led ps (fun c'=>P c'/\μ c'<=μ c) s s') E { s with heap:=h,toks:=tk })
  (done:∀c u h tk,Z c->Fr h₀ env.locals h (fm u (ps c))->News h₀ env.locals h (led c)->Q .next { s with heap:=h,toks:=tk })
  (hE:PassesOwn (model prog w) A env E):
  codeAny (model prog w) A (.forLoop (.Name x px) (.ref I) body [] env) (fun r s'=>match r with| .ok f=>Q f s'| .error e=>cameBackBy (model prog w) A env E e s') s:=by
 refine codeAny_forLoop (fun k s'=>∃c,Got h₀ env.locals led ps (fun c'=>c'=c/\P c) s s'/\μ c=k) ?_ (μ c₀) ⟨c₀,⟨c₀,m₀,s.heap,s.toks,rfl,F,N,hk,rfl,hp⟩,rfl⟩
 intro k s' w1q;(refine Uc.ex1 w1q fun c=>Uc.an2 fun w2q e1q=>?_;clear w1q;subst e1q);(refine Uc.ex4 w2q fun c' m' h' tk'=>Uc.an6 fun e1q F' N' hk' e2q hp1=>?_;clear w2q;subst e1q;subst e2q)
 refine wpAny_mono (wpAny_passesOwn hE (turn c' m' h' tk' hp1 (by rw[fm_eq hk'];exact F') N')) (fun r s₂ q=>?_) fun _ _ e=>e
 cases r with
 |none=>
  (refine Uc.ex4 q fun c₂ m₂ h₂ tk₂=>Uc.an5 fun e1q F₂ N₂ hk₂ hz=>?_;clear q;subst e1q)
  exact wpAny_execs_nil (done c₂ m₂ h₂ tk₂ hz (by rw[fm_eq hk₂];exact F₂) N₂)
 |some v=>
  (refine Uc.ex4 q fun c₂ m₂ h₂ tk₂=>Uc.an6 fun e1q F₂ N₂ hk₂ hy hlt=>?_;clear q;subst e1q)
  refine wpAny_assign_Name (wpAny_storeName_local hx F₂.ns (fun h₃ hn₃ hs₃=>?_) hp')
  refine wpAny_mono (wpAny_passesOwn hE (bodyT c₂ v m₂ h₃ _ hy (by rw[fm_eq hk₂];exact F₂.set hn₃ hs₃) (N₂.set hs₃))) (fun f s₃ q=>?_) fun _ _ e=>e
  have go:Got h₀ env.locals led ps (fun c'=>P c'/\μ c'<=μ c₂) s s₃->∃m,m<μ c'/\∃c,Got h₀ env.locals led ps (fun c'=>c'=c/\P c) s s₃/\μ c=m:=fun q=>by
   (refine Uc.ex4 q fun c₄ m₄ h₄ tk₄=>Uc.an6 fun e1q F₄ N₄ hk₄ hp₄ hle=>?_;clear q;subst e1q)
   exact⟨μ c₄,Nat.lt_of_le_of_lt hle hlt,c₄,⟨c₄,m₄,h₄,tk₄,rfl,F₄,N₄,hk₄,rfl,hp₄⟩,rfl⟩
  cases f with
  |ret v=>exact q
  |brk=>exact q
  |next=>exact go q
  |cont=>exact go q
end
end Uc
end
section
namespace Uc
open PyProof.Rows.LCg
noncomputable def TurnC (h₀:Heap)(L:Addr)(m:Str->Option Value)(s:Shared)(I:Addr)(oI:Obj)(C:Addr)(oC:Obj)(D:Addr)(oD:Obj)(S:List (Addr×Obj)->Prop)(s₂:Shared):Prop:=
 ∃h' tk news',s₂={ s with heap:=h',toks:=tk }/\Fr h₀ L h' m/\News h₀ L h' ((I,oI)::(C,oC)::(D,oD)::news')/\Off3 I C D news'/\S news'
theorem TurnC.mk {h₀:Heap}{L I C D:Addr}{m:Str->Option Value}{s:Shared}{oI oC oD:Obj}{S:List (Addr×Obj)->Prop}{h':Heap}{tk:Nat}{all:List (Addr×Obj)}(news':List (Addr×Obj))
  (F:Fr h₀ L h' m) (N:News h₀ L h' all) (sub:∀p∈(I,oI)::(C,oC)::(D,oD)::news',p∈all) (off:Off3 I C D news') (hS:S news'):TurnC h₀ L m s I oI C oC D oD S { s with heap:=h',toks:=tk }:=
 ⟨h',tk,news',rfl,F,fun p hp=>N p (sub p hp),off,hS⟩
section
variable {prog:Program}{w:World}{A:Around}{E:Value->Shared->Prop}{s:Shared}{h₀:Heap}{L:Addr}{m:Str->Option Value}{env:Env}
noncomputable def TurnsC (prog:Program)(w:World)(A:Around)(h₀:Heap)(L:Addr)(m:Str->Option Value)(env:Env)(elt:Expr)(ifs:List Expr)(x:Str)(scope:Scope)(cl:List (Str×Addr))(n:Nat)(P:Nat->Value->Prop)(S:List (Addr×Obj)->Prop)(R:Nat->List Value->List (Addr×Obj)->Prop)(s:Shared):Prop:=
 ∀i v ys news I oI C oC D m₂ h tk (E':Value->Shared->Prop),i<n->P i v->R i ys news->S news->NsObj oC m₂->m₂ x=some v->Fr h₀ L h m->News h₀ L h ((I,oI)::(C,oC)::(D,lst ys)::news)->Off3 I C D news->((@Ne Nat I C)/\(@Ne Nat I D)/\(@Ne Nat C D))->
  wpAny (model prog w) A (forIn ifs true fun c r=>if r=true then do let ok<-isTrue c (compEnvC scope cl C env) (eval c (compEnvC scope cl C env));pure (ForInStep.yield ok) else pure (ForInStep.yield r)) (fun ok s₃=>
   if ok=true then wpAny (model prog w) A (eval elt (compEnvC scope cl C env)) (fun y s₄=>TurnC h₀ L m { s with heap:=h,toks:=tk } I oI C oC D (lst ys) (fun nw=>S nw/\R (i+1) (ys++[y]) nw) s₄) E' s₃
   else TurnC h₀ L m { s with heap:=h,toks:=tk } I oI C oC D (lst ys) (fun nw=>S nw/\R (i+1) ys nw) s₃) E' { s with heap:=h,toks:=tk }
theorem comp_block {elt iter:Expr}{ifs:List Expr}{x:Str}{px:Pos}{scope:Scope}{cl:List (Str×Addr)}{pos:Pos}{s₂:Shared}{I:Addr}{fp:List Addr}{n:Nat}{P:Nat->Value->Prop}{St:Nat->Heap->Prop}{S:List (Addr×Obj)->Prop}{news:List (Addr×Obj)}
  {R:Nat->List Value->List (Addr×Obj)->Prop} {RR:Value->Addr->Result->Shared->Prop}
  (W:Walks prog w A I fp [I] n P St) (hsz:n<=sizeLine) (hIo:∀i h,St i h->∃o,h.get? I=some o)
  (hSt:∀i h h' o nw,St i h->h.get? I=some o->h'.get? I=some o->(∀b o,h₀.get? b=some o->h'.get? b=some o)->News h₀ L h' nw->S nw->St i h')
  (hcell:∀y∈scope.names,y.2≠.cell) (hkind:scope.kind=.function) (hx:scope.names.lookup x=some .local) (hst:St 0 s₂.heap) (hfp:∀b∈fp,b<s₂.heap.objs.size)
  (F:Fr h₀ L s₂.heap m) (N:News h₀ L s₂.heap news) (hIL:L≠I) (hI₀:h₀.get? I=none) (off:∀p∈news,p.1≠I) (hS:S news) (hR:R 0 [] news)
  (T:TurnsC prog w A h₀ L m env elt ifs x scope cl n P S R s₂)
  (hRR:∀D C h tk m' ys news',Fr h₀ L h m->News h₀ L h ((D,lst ys)::news')->Off1 D news'->h.Ns C m'->h₀.get? C=none->h₀.get? D=none->C≠L->D≠L->C≠D->(∀p∈news',p.1≠C)->R n ys news'->RR (.ref D) C (.ok .next) { s₂ with heap:=h,toks:=tk }):
  wpAny (model prog w) A (newList []) (fun acc s₃=>wpAny (model prog w) A (newFunctionEnv scope env.globals cl [] env.qual none .none (some env)) (fun cenv s₄=>
   codeAny (model prog w) A (.compStart (.ListComp elt [⟨.Name x px,iter,ifs,0⟩] scope pos) 0 (.ref I) acc { cenv with scope:=relabel scope env }) (RR acc cenv.locals) s₄) E s₃) E s₂:=by
 refine wpAny_newObj_type (wpAny_newFunctionEnv hcell (by intro y hy;simp at hy) (fun h₁ hns₁ hsb₁=>?_) hkind)
 dsimp only at hns₁ hsb₁ ⊢
 generalize hH2:s₂.heap.push { cls:=.type "list",dict:=none,data:=.seq ([]:List Value).toArray }=H2 at hns₁ hsb₁ ⊢
 have hC:H2.objs.size=s₂.heap.objs.size+1:=by rw[<-hH2,Heap.size_push]
 have hDC:s₂.heap.objs.size≠H2.objs.size:=by rw[hC];exact Nat.ne_of_lt (Nat.lt_succ_self _)
 have below:∀b,b<s₂.heap.objs.size->b≠H2.objs.size/\b≠s₂.heap.objs.size:=fun b hb=>⟨by rw[hC];exact Nat.ne_of_lt (Nat.lt_succ_of_lt hb),Nat.ne_of_lt hb⟩
 have hDf:s₂.heap.objs.size ∉ fp:=fun hm=>Nat.lt_irrefl _ (hfp _ hm)
 have hCf:H2.objs.size ∉ fp:=fun hm=>by have:=hfp _ hm;rw[hC] at this;exact Nat.lt_irrefl _ (Nat.lt_of_succ_lt this)
 have hIlt:I<s₂.heap.objs.size:=hfp I (W.sub I (List.mem_singleton.mpr rfl))
 have old:∀b o,s₂.heap.get? b=some o->h₁.get? b=some o:=fun b o e=>hsb₁.extBut b o (below b (Heap.lt_size e)).1 (Heap.get?_push_of_some _ (hH2▸Heap.get?_push_of_some _ e))
 have hacc:h₁.get? s₂.heap.objs.size=some (lst []):=hsb₁.extBut _ _ hDC (Heap.get?_push_of_some _ (hH2▸Heap.get?_push_size _ rfl))
 have hst₁:St 0 h₁:=W.frame _ _ _ hst fun b _ o e=>old b o e
 have fresh:∀a,s₂.heap.objs.size<=a->s₂.heap.get? a=none:=fun a ha=>by
  cases e:s₂.heap.get? a with
  |none=>rfl
  |some o'=>exact absurd (Heap.lt_size e) (Nat.not_lt.mpr ha)
 have fresh₀:∀a,s₂.heap.objs.size<=a->h₀.get? a=none:=fun a ha=>by
  cases e:h₀.get? a with
  |none=>rfl
  |some o'=>have:=F.keep a o' e;rw[fresh a ha] at this;cases this
 have hD₀:h₀.get? s₂.heap.objs.size=none:=fresh₀ _ (Nat.le_refl _)
 have hC₀:h₀.get? H2.objs.size=none:=fresh₀ _ (by rw[hC];exact Nat.le_succ _)
 have hLlt:L<s₂.heap.objs.size:=F.ns.lt
 have hDL:s₂.heap.objs.size≠L:=Ne.symm (below L hLlt).2
 have hCL:H2.objs.size≠L:=Ne.symm (below L hLlt).1
 have hCI:I≠H2.objs.size:=(below I hIlt).1
 have hDI:I≠s₂.heap.objs.size:=(below I hIlt).2
 have off₀:Off3 I H2.objs.size s₂.heap.objs.size news:=Off3.of fun p hp=>⟨off p hp,(below _ (Heap.lt_size (N p hp).1)).1,(below _ (Heap.lt_size (N p hp).1)).2⟩
 have loop:∀s₃:Shared,s₃={ s₂ with heap:=h₁,toks:=s₂.toks+([]:List (Str×Value)).length }->
   codeAny (model prog w) A (.compLoop (.ListComp elt [⟨.Name x px,iter,ifs,0⟩] scope pos) 0 (.ref I) (.ref s₂.heap.objs.size) (compEnvC scope cl H2.objs.size env))
    (RR (.ref s₂.heap.objs.size) H2.objs.size) s₃:=by
  rintro s₃ rfl
  refine codeAny_compLoop_tests
   (fun k s'=>∃h' tk i ys m' news',s'={ s₂ with heap:=h',toks:=tk }/\i<=n/\k=n+1-i/\ys.length<=i/\St i h'/\Fr h₀ L h' m/\h'.Ns H2.objs.size m'/\News h₀ L h' ((s₂.heap.objs.size,lst ys)::news')/\
    Off3 I H2.objs.size s₂.heap.objs.size news'/\S news'/\R i ys news') ?_ (n+1)
   (Uc.ei6 h₁ _ 0 ([]) _ news ⟨rfl,Nat.zero_le _,rfl,Nat.le_refl _,hst₁,F.keeps old,hns₁,fun p hp=>?_,off₀,hS,hR⟩)
  ·intro k s' q0;(refine Uc.ex6 q0 fun h' tk i ys m' news'=>Uc.an11 fun e1q hi e2q hyl hst' F' hn' N' off' hS' R'=>?_;clear q0;subst e1q;subst e2q)
   by_cases hlt:i<n
   ·refine W.item i _ _ _ hlt hst' fun v h₂ tk₂ hPv hst₂ hk₂=>?_
    refine wpAny_assign_Name (wpAny_storeName_local (lookup_relabel_local hx) (hn'.at' fun o e=>hk₂ _ o (by simpa using Ne.symm hCI) e) (fun h₃ hn₃ hs₃=>?_) (by simp[compEnvC,relabel,hkind]))
    have hst₃:St (i+1) h₃:=W.frame _ _ _ hst₂ fun b hb o e=>hs₃.extBut b o (fun q=>hCf (by have q':b=H2.objs.size:=q;rw[<-q'];exact hb)) e
    (refine Uc.ex1 (hIo _ _ hst₃) fun oI heI=>?_)
    (refine Uc.ex1 (ns_obj hn₃) fun oC=>Uc.an2 fun heC hoC=>?_)
    have F₃:Fr h₀ L h₃ m:=(fr_but F' hk₂ hIL hI₀).change hs₃ hCL hC₀
    have off3:=off'.mem
    have N₂:News h₀ L h₂ ((s₂.heap.objs.size,lst ys)::news'):=news_but N' hk₂ fun p hp=>by
     rcases List.mem_cons.mp hp with rfl|hp
     ·exact Ne.symm hDI
     ·exact(off3 p hp).1
    have N₃:News h₀ L h₃ ((I,oI)::(H2.objs.size,oC)::(s₂.heap.objs.size,lst ys)::news'):=fun p hp=>by
     rcases List.mem_cons.mp hp with rfl|hp
     ·exact⟨heI,Ne.symm hIL,hI₀⟩
     ·rcases List.mem_cons.mp hp with rfl|hp
      ·exact⟨heC,hCL,hC₀⟩
      ·have z:=N₂ p hp
       refine⟨hs₃.extBut _ _ ?_ z.1,z.2⟩
       rcases List.mem_cons.mp hp with rfl|hp
       ·exact hDC
       ·exact(off3 p hp).2.1
    refine wpAny_mono (T i v ys news' I oI H2.objs.size oC s₂.heap.objs.size _ h₃ _ _ hlt hPv R' hS' hoC (by simp) F₃ N₃ off' ⟨hCI,hDI,Ne.symm hDC⟩) (fun ok s₃ q=>?_) fun _ _ e=>e
    have facts:∀{h₄:Heap} {news₄:List (Addr×Obj)} {S':List (Addr×Obj)->Prop},Fr h₀ L h₄ m->News h₀ L h₄ ((I,oI)::(H2.objs.size,oC)::(s₂.heap.objs.size,lst ys)::news₄)->S news₄->
      News h₀ L h₄ news₄/\St (i+1) h₄/\h₄.get? s₂.heap.objs.size=some (lst ys)/\h₄.get? H2.objs.size=some oC:=fun {h₄ news₄ S'} F₄ N₄ hS₄=>by
     have zI:=(N₄ (I,oI) List.mem_cons_self).1
     have zC:=(N₄ (H2.objs.size,oC) (List.mem_cons_of_mem _ List.mem_cons_self)).1
     have zD:=(N₄ (s₂.heap.objs.size,lst ys) (List.mem_cons_of_mem _ (List.mem_cons_of_mem _ List.mem_cons_self))).1
     have N₄':News h₀ L h₄ news₄:=fun p hp=>N₄ p (List.mem_cons_of_mem _ (List.mem_cons_of_mem _ (List.mem_cons_of_mem _ hp)))
     exact⟨N₄',hSt _ _ _ _ _ hst₃ heI zI F₄.keep N₄' hS₄,zD,zC⟩
    cases ok with
    |false=>
     simp only[Bool.false_eq_true,if_false] at q ⊢
     (refine Uc.ex3 q fun h₄ tk₄ news₄=>Uc.an6 fun e1q F₄ N₄ off₄ hS₄ R₄=>?_;clear q;subst e1q)
     (refine Uc.ah4 (facts (S':=S) F₄ N₄ hS₄) fun N₄' hst₄ zD zC=>?_)
     exact⟨n+1-(i+1),Nat.sub_lt_sub_left (Nat.lt_succ_of_lt hlt) (Nat.lt_succ_self i),Uc.ei6 h₄ tk₄ (i+1) ys _ news₄ ⟨rfl,hlt,rfl,Nat.le_succ_of_le hyl,hst₄,F₄,hoC.ns zC,fun p hp=>N₄ p (List.mem_cons_of_mem _ (List.mem_cons_of_mem _ hp)),off₄,hS₄,R₄⟩⟩
    |true=>
     simp only[if_true] at q ⊢
     refine wpAny_mono q (fun y s₄ q=>?_) fun _ _ e=>e
     (refine Uc.ex3 q fun h₄ tk₄ news₄=>Uc.an6 fun e1q F₄ N₄ off₄ hS₄ R₄=>?_;clear q;subst e1q)
     (refine Uc.ah4 (facts (S':=S) F₄ N₄ hS₄) fun N₄' hst₄ zD zC=>?_)
     refine append_at (hsz:=by show ys.toArray.size<=sizeLine;rw[List.size_toArray];exact Nat.le_trans hyl (Nat.le_trans hi hsz)) zD fun h₅ hs₅ hD₅=>?_
     have off4:=off₄.mem
     refine⟨n+1-(i+1),Nat.sub_lt_sub_left (Nat.lt_succ_of_lt hlt) (Nat.lt_succ_self i),Uc.ei6 h₅ tk₄ (i+1) (ys++[y]) _ news₄ ⟨rfl,hlt,rfl,by rw[List.length_append,List.length_singleton];omega,W.frame _ _ _ hst₄ fun b hb o e=>hs₅.extBut b o (fun q=>hDf (q▸hb)) e,F₄.change hs₅ hDL hD₀,(hoC.ns zC).sameBut hs₅ (Ne.symm hDC),fun p hp=>?_,off₄,hS₄,R₄⟩⟩
     rcases List.mem_cons.mp hp with rfl|hp
     ·exact⟨hD₅.trans (congrArg some (lst_snoc ys y)),hDL,hD₀⟩
     ·exact⟨hs₅.extBut _ _ (off4 p hp).2.2 (N₄' p hp).1,(N₄' p hp).2⟩
   ·obtain rfl:i=n:=Nat.le_antisymm hi (Nat.not_lt.mp hlt)
    refine W.done _ _ _ hst' fun h₂ tk₂ hk₂=>?_
    have off3:=off'.mem
    exact hRR _ _ h₂ tk₂ _ ys news' (fr_but F' hk₂ hIL hI₀) (news_but N' hk₂ fun p hp=>by
     rcases List.mem_cons.mp hp with rfl|hp
     ·exact Ne.symm hDI
     ·exact(off3 p hp).1) off'.one (hn'.at' fun o e=>hk₂ _ o (by simpa using Ne.symm hCI) e) hC₀ hD₀ hCL hDL (Ne.symm hDC) (fun p hp=>(off3 p hp).2.1) R'
  ·rcases List.mem_cons.mp hp with rfl|hp
   ·exact⟨hacc,hDL,hD₀⟩
   ·exact⟨old _ _ (N p hp).1,(N p hp).2⟩
 exact codeAny_compStart_list (loop _ rfl) (W.self 0 _ _ _ hst₁ (loop _ rfl))
noncomputable def CompS (prog:Program)(w:World)(A:Around)(env:Env)(elt:Expr)(ifs:List Expr)(x:Str)(scope:Scope)(cl:List (Str×Addr))(Q:Value->Shared->Prop)(xv:Value)(s₁:Shared):Prop:=
 ∃(h₀:Heap) (L:Addr) (m:Str->Option Value) (y:Str) (t:Tok) (news:List (Addr×Obj)) (R:Nat->List Value->List (Addr×Obj)->Prop),xv=.str y t/\A.handled=none/\Fr h₀ L s₁.heap m/\News h₀ L s₁.heap news/\y.length<=10000/\R 0 [] news/\
  (∀g,TurnsC prog w A h₀ L m env elt ifs x scope cl y.length (SignAt y) (fun _=>True) R { s₁ with heap:=g })/\
  ∀D h tk ys news',R y.length ys news'->Fr h₀ L h m->News h₀ L h ((D,lst ys)::news')->Off1 D news'->Q (.ref D) { s₁ with heap:=h,toks:=tk }
theorem comp_str {elt iter:Expr}{ifs:List Expr}{x:Str}{px:Pos}{scope:Scope}{cl:List (Str×Addr)}{pos:Pos}{Q:Value->Shared->Prop}
  (hclos:closureFor scope env=pure cl) (hcell:∀y∈scope.names,y.2≠.cell) (hkind:scope.kind=.function)
  (hnames:∀y∈scope.names,y.2=.local->scope.names.lookup y.1=some .local) (hx:scope.names.lookup x=some .local)
  (h:wpAny (model prog w) A (eval iter env) (CompS prog w A env elt ifs x scope cl Q) E s)
  (hs:∀x,foldedSetIterable iter env x=pure x):
  wpAny (model prog w) A (eval (.ListComp elt [⟨.Name x px,iter,ifs,0⟩] scope pos) env) Q E s:=by
 rw[eval_ListComp]
 refine wpAny_comprehension_free (use:=none) rfl hs hclos hkind hnames (wpAny_mono h (fun xv s₁ h₁=>?_) fun _ _ e=>e)
 (refine Uc.ex7 h₁ fun h₀ L m y t news R=>Uc.an8 fun e1q hh F N hsz hR T fin=>?_;clear h₁;subst e1q)
 cases ha:y.cps.all (· <128)
 ·refine wpAny_pyIter_wide ha ?_
  refine comp_block (S:=fun _=>True) (Walks.strWide hh s₁.heap.objs.size y t) (Nat.le_trans hsz (by decide)) (fun i h st=>let ⟨o,h1,_⟩:=st;⟨o,h1⟩) (fun i h h' o nw st e1 e2 _ _ _=>by
    obtain⟨o',g1,g2⟩:=st
    rw[e1] at g1;cases g1
    exact⟨o,e2,g2⟩) hcell hkind hx ⟨_,Heap.get?_push_size _ rfl,rfl,rfl⟩ (fun b hb=>by
    rw[List.mem_singleton.mp hb]
    show s₁.heap.objs.size<(s₁.heap.push _).objs.size
    rw[Heap.size_push];exact Nat.lt_succ_self _)
   (F.push _) (fun p hp=>⟨Heap.get?_push_of_some _ (N p hp).1,(N p hp).2⟩) (Nat.ne_of_lt F.ns.lt) (next_is_new F) (fun p hp=>Nat.ne_of_lt (Heap.lt_size (N p hp).1)) trivial hR (T _) ?_
  intro D C h tk m' ys news' F' N' o1 hn hC₀ hD₀ hCL hDL hCD offC r
  refine⟨m',hn,fun h'' hs''=>fin D h'' tk ys news' r (F'.change hs'' hCL hC₀) (fun p hp=>?_) o1⟩
  refine⟨hs''.extBut _ _ ?_ (N' p hp).1,(N' p hp).2⟩
  rcases List.mem_cons.mp hp with rfl|hp
  ·exact Ne.symm hCD
  ·exact offC p hp
 ·refine wpAny_pyIter_ascii ha ?_
  refine comp_block (S:=fun _=>True) (Walks.strAscii hh s₁.heap.objs.size y t) (Nat.le_trans hsz (by decide)) (fun i h st=>let ⟨o,h1,_⟩:=st;⟨o,h1⟩) (fun i h h' o nw st e1 e2 _ _ _=>by
    obtain⟨o',g1,g2⟩:=st
    rw[e1] at g1;cases g1
    exact⟨o,e2,g2⟩) hcell hkind hx ⟨_,Heap.get?_push_size _ rfl,rfl,rfl⟩ (fun b hb=>by
    rw[List.mem_singleton.mp hb]
    show s₁.heap.objs.size<(s₁.heap.push _).objs.size
    rw[Heap.size_push];exact Nat.lt_succ_self _)
   (F.push _) (fun p hp=>⟨Heap.get?_push_of_some _ (N p hp).1,(N p hp).2⟩) (Nat.ne_of_lt F.ns.lt) (next_is_new F) (fun p hp=>Nat.ne_of_lt (Heap.lt_size (N p hp).1)) trivial hR (T _) ?_
  intro D C h tk m' ys news' F' N' o1 hn hC₀ hD₀ hCL hDL hCD offC r
  refine⟨m',hn,fun h'' hs''=>fin D h'' tk ys news' r (F'.change hs'' hCL hC₀) (fun p hp=>?_) o1⟩
  refine⟨hs''.extBut _ _ ?_ (N' p hp).1,(N' p hp).2⟩
  rcases List.mem_cons.mp hp with rfl|hp
  ·exact Ne.symm hCD
  ·exact offC p hp
noncomputable def CompL (prog:Program)(w:World)(A:Around)(env:Env)(elt:Expr)(ifs:List Expr)(x:Str)(scope:Scope)(cl:List (Str×Addr))(Q:Value->Shared->Prop)(xv:Value)(s₁:Shared):Prop:=
 ∃(h₀:Heap) (L:Addr) (m:Str->Option Value) (ax:Addr) (its:List Value) (k:Nat) (news:List (Addr×Obj)) (R:Nat->List Value->List (Addr×Obj)->Prop),xv=.ref ax/\A.handled=none/\Fr h₀ L s₁.heap m/\News h₀ L s₁.heap news/\(ax,listOf its.toArray k)∈news/\its.length<=10000/\R 0 [] news/\
  (∀g,TurnsC prog w A h₀ L m env elt ifs x scope cl its.length (fun i v=>its[i]? =some v) (fun nw=>(ax,listOf its.toArray k)∈nw) R { s₁ with heap:=g })/\
  ∀D h tk ys news',R its.length ys news'->Fr h₀ L h m->News h₀ L h ((D,lst ys)::news')->Off1 D news'->Q (.ref D) { s₁ with heap:=h,toks:=tk }
theorem comp_list {elt iter:Expr}{ifs:List Expr}{x:Str}{px:Pos}{scope:Scope}{cl:List (Str×Addr)}{pos:Pos}{Q:Value->Shared->Prop}
  (hclos:closureFor scope env=pure cl) (hcell:∀y∈scope.names,y.2≠.cell) (hkind:scope.kind=.function)
  (hnames:∀y∈scope.names,y.2=.local->scope.names.lookup y.1=some .local) (hx:scope.names.lookup x=some .local)
  (h:wpAny (model prog w) A (eval iter env) (CompL prog w A env elt ifs x scope cl Q) E s)
  (hs:∀x,foldedSetIterable iter env x=pure x):
  wpAny (model prog w) A (eval (.ListComp elt [⟨.Name x px,iter,ifs,0⟩] scope pos) env) Q E s:=by
 rw[eval_ListComp]
 refine wpAny_comprehension_free (use:=none) rfl hs hclos hkind hnames (wpAny_mono h (fun xv s₁ h₁=>?_) fun _ _ e=>e)
 (refine Uc.ex8 h₁ fun h₀ L m ax its k news R=>Uc.an9 fun e1q hh F N hm hsz hR T fin=>?_;clear h₁;subst e1q)
 have hl:s₁.heap.IsList ax its.toArray:=⟨_,(N _ hm).1,rfl,k,rfl⟩
 have hlt:ax<s₁.heap.objs.size:=Heap.lt_size (N _ hm).1
 refine wpAny_pyIter_list hl ?_
 have W:Walks prog w A s₁.heap.objs.size [s₁.heap.objs.size,ax] [s₁.heap.objs.size] its.length (fun i v=>its[i]? =some v) (fun i h=>h.IsListIter s₁.heap.objs.size ax i/\h.IsList ax its.toArray):=by
  have:=Walks.list (prog:=prog) (w:=w) (A:=A) hh s₁.heap.objs.size ax (Nat.ne_of_lt hlt) its.toArray
  simpa using this
 refine comp_block (S:=fun nw=>(ax,listOf its.toArray k)∈nw) W (Nat.le_trans hsz (by decide)) (fun i h st=>by obtain⟨o,e,_⟩:=st.1;exact⟨o,e⟩) (fun i h h' o nw st e1 e2 k0 N' S'=>by
   obtain⟨o',g1,g2⟩:=st.1
   rw[e1] at g1;cases g1
   exact⟨⟨o,e2,g2⟩,⟨_,(N' _ S').1,rfl,k,rfl⟩⟩) hcell hkind hx ⟨⟨_,Heap.get?_push_size _ rfl,rfl,rfl⟩,hl.push _⟩ (fun b hb=>by
   show b<(s₁.heap.push _).objs.size
   rw[Heap.size_push]
   rcases List.mem_cons.mp hb with rfl|hb
   ·exact Nat.lt_succ_self _
   ·rw[List.mem_singleton.mp hb];exact Nat.lt_succ_of_lt hlt)
  (F.push _) (fun p hp=>⟨Heap.get?_push_of_some _ (N p hp).1,(N p hp).2⟩) (Nat.ne_of_lt F.ns.lt) (next_is_new F) (fun p hp=>Nat.ne_of_lt (Heap.lt_size (N p hp).1)) hm hR (T _) ?_
 intro D C h tk m' ys news' F' N' o1 hn hC₀ hD₀ hCL hDL hCD offC r
 refine⟨m',hn,fun h'' hs''=>fin D h'' tk ys news' r (F'.change hs'' hCL hC₀) (fun p hp=>?_) o1⟩
 refine⟨hs''.extBut _ _ ?_ (N' p hp).1,(N' p hp).2⟩
 rcases List.mem_cons.mp hp with rfl|hp
 ·exact Ne.symm hCD
 ·exact offC p hp
end
end Uc
end
section
namespace Uc
open PyProof.Rows.LCg
section
variable {prog:Program}{w:World}{A:Around}{E:Value->Shared->Prop}{s:Shared}{h₀:Heap}{L:Addr}{m:Str->Option Value}{env:Env}
noncomputable def TurnsX (prog:Program)(w:World)(A:Around)(h₀:Heap)(L:Addr)(m:Str->Option Value)(env:Env)(elt:Expr)(x:Str)(scope:Scope)(cl:List (Str×Addr))(n:Nat)(P:Nat->Value->Prop)(S:List (Addr×Obj)->Prop)(R:Nat->List Value->List (Addr×Obj)->Prop)(s:Shared):Prop:=
 ∀X oX i v ys news I oI C oC D m₂ h tk (E':Value->Shared->Prop),i<n->P i v->R i ys news->S news->NsObj oC m₂->oX.data=.cell (some v)->Fr h₀ L h m->News h₀ L h ((I,oI)::(C,oC)::(D,lst ys)::(X,oX)::news)->Off3 I C D ((X,oX)::news)->(∀p∈news,p.1≠X)->((@Ne Nat I C)/\(@Ne Nat I D)/\(@Ne Nat C D))->
  wpAny (model prog w) A (eval elt (compEnvC scope ((x,X)::cl) C env)) (fun y s₄=>TurnC h₀ L m { s with heap:=h,toks:=tk } I oI C oC D (lst ys) (fun nw=>∃nw',nw=(X,oX)::nw'/\(∀p∈nw',p.1≠X)/\S nw'/\R (i+1) (ys++[y]) nw') s₄) E' { s with heap:=h,toks:=tk }
theorem comp_blockX {elt iter:Expr}{x:Str}{px:Pos}{scope:Scope}{cl:List (Str×Addr)}{pos:Pos}{s₂:Shared}{I:Addr}{fp:List Addr}{n:Nat}{P:Nat->Value->Prop}{St:Nat->Heap->Prop}{S:List (Addr×Obj)->Prop}{news:List (Addr×Obj)}
  {R:Nat->List Value->List (Addr×Obj)->Prop} {RR:Value->Addr->Result->Shared->Prop}
  (W:Walks prog w A I fp [I] n P St) (hsz:n<=sizeLine) (hIo:∀i h,St i h->∃o,h.get? I=some o)
  (hSt:∀i h h' o nw,St i h->h.get? I=some o->h'.get? I=some o->(∀b o,h₀.get? b=some o->h'.get? b=some o)->News h₀ L h' nw->S nw->St i h')
  (hcells:∀k,cellsFrom k scope.names cl=(x,k)::cl) (hpush:∀h,pushCells h scope.names=h.push { cls:=.type "cell",data:=.cell none }) (hkind:scope.kind=.function) (hx:(relabel scope env).names.lookup x=some .cell) (hst:St 0 s₂.heap) (hfp:∀b∈fp,b<s₂.heap.objs.size)
  (F:Fr h₀ L s₂.heap m) (N:News h₀ L s₂.heap news) (hIL:L≠I) (hI₀:h₀.get? I=none) (off:∀p∈news,p.1≠I) (hS:S news) (hR:R 0 [] news)
  (T:TurnsX prog w A h₀ L m env elt x scope cl n P S R s₂)
  (hRR:∀D C h tk m' ys news',Fr h₀ L h m->News h₀ L h ((D,lst ys)::news')->Off1 D news'->h.Ns C m'->h₀.get? C=none->h₀.get? D=none->C≠L->D≠L->C≠D->(∀p∈news',p.1≠C)->R n ys news'->RR (.ref D) C (.ok .next) { s₂ with heap:=h,toks:=tk }):
  wpAny (model prog w) A (newList []) (fun acc s₃=>wpAny (model prog w) A (newFunctionEnv scope env.globals cl [] env.qual none .none (some env)) (fun cenv s₄=>
   codeAny (model prog w) A (.compStart (.ListComp elt [⟨.Name x px,iter,[],0⟩] scope pos) 0 (.ref I) acc { cenv with scope:=relabel scope env }) (RR acc cenv.locals) s₄) E s₃) E s₂:=by
 refine wpAny_newObj_type ?_
 simp only[newFunctionEnv,Option.isSome_some,if_true]
 refine wpAny_bind (wpAny_alloc ?_)
 refine wpAny_bind (wpAny_layCells _ (fun name kind cells=>by cases hkc:kind==NameKind.cell<;>simp[hkc]) _ _ _ _ ?_)
 refine wpAny_bind ?_
 rw[List.forIn_nil]
 refine wpAny_pure (wpAny_pure ?_)
 (try dsimp only)
 rw[hcells,hpush]
 generalize hH2:s₂.heap.push { cls:=.type "list",dict:=none,data:=.seq ([]:List Value).toArray }=H2
 have hC:H2.objs.size=s₂.heap.objs.size+1:=by rw[<-hH2,Heap.size_push]
 have hX':(H2.push { cls:=.type "dict",data:=.dict #[] }).objs.size=s₂.heap.objs.size+1+1:=by rw[Heap.size_push,hC]
 generalize hXX:(H2.push { cls:=.type "dict",data:=.dict #[] }).objs.size=X at hX'
 have oldH2:∀b o,s₂.heap.get? b=some o->H2.get? b=some o:=fun b o e=>hH2▸Heap.get?_push_of_some _ e
 have hDH2:H2.get? s₂.heap.objs.size=some (lst []):=hH2▸Heap.get?_push_size _ rfl
 have hns₁:((H2.push { cls:=.type "dict",data:=.dict #[] }).push { cls:=.type "cell",data:=.cell none }).Ns H2.objs.size (fun _=>none):=(Heap.Ns.new H2 (.type "dict")).keeps fun b o e=>Heap.get?_push_of_some _ e
 have hXcell:((H2.push { cls:=.type "dict",data:=.dict #[] }).push { cls:=.type "cell",data:=.cell none }).get? X=some { cls:=.type "cell",data:=.cell none }:=by rw[<-hXX];exact Heap.get?_push_size _ rfl
 have old:∀b o,s₂.heap.get? b=some o->((H2.push { cls:=.type "dict",data:=.dict #[] }).push { cls:=.type "cell",data:=.cell none }).get? b=some o:=fun b o e=>Heap.get?_push_of_some _ (Heap.get?_push_of_some _ (oldH2 b o e))
 have hacc:((H2.push { cls:=.type "dict",data:=.dict #[] }).push { cls:=.type "cell",data:=.cell none }).get? s₂.heap.objs.size=some (lst []):=Heap.get?_push_of_some _ (Heap.get?_push_of_some _ hDH2)
 generalize ((H2.push { cls:=.type "dict",data:=.dict #[] }).push { cls:=.type "cell",data:=.cell none })=h₁ at hns₁ hXcell old hacc ⊢
 have hDC:s₂.heap.objs.size≠H2.objs.size:=by rw[hC];exact Nat.ne_of_lt (Nat.lt_succ_self _)
 have hDX:s₂.heap.objs.size≠X:=by rw[hX'];exact Nat.ne_of_lt (Nat.lt_succ_of_lt (Nat.lt_succ_self _))
 have hCX:H2.objs.size≠X:=by rw[hX',hC];exact Nat.ne_of_lt (Nat.lt_succ_self _)
 have below:∀b,b<s₂.heap.objs.size->b≠H2.objs.size/\b≠s₂.heap.objs.size/\b≠X:=fun b hb=>⟨by rw[hC];exact Nat.ne_of_lt (Nat.lt_succ_of_lt hb),Nat.ne_of_lt hb,by rw[hX'];exact Nat.ne_of_lt (Nat.lt_succ_of_lt (Nat.lt_succ_of_lt hb))⟩
 have hDf:s₂.heap.objs.size ∉ fp:=fun hm=>Nat.lt_irrefl _ (hfp _ hm)
 have hCf:H2.objs.size ∉ fp:=fun hm=>(below _ (hfp _ hm)).1 rfl
 have hXf:X ∉ fp:=fun hm=>(below _ (hfp _ hm)).2.2 rfl
 have hIlt:I<s₂.heap.objs.size:=hfp I (W.sub I (List.mem_singleton.mpr rfl))
 have hst₁:St 0 h₁:=W.frame _ _ _ hst fun b _ o e=>old b o e
 have fresh:∀a,s₂.heap.objs.size<=a->s₂.heap.get? a=none:=fun a ha=>by
  cases e:s₂.heap.get? a with
  |none=>rfl
  |some o'=>exact absurd (Heap.lt_size e) (Nat.not_lt.mpr ha)
 have fresh₀:∀a,s₂.heap.objs.size<=a->h₀.get? a=none:=fun a ha=>by
  cases e:h₀.get? a with
  |none=>rfl
  |some o'=>have:=F.keep a o' e;rw[fresh a ha] at this;cases this
 have hD₀:h₀.get? s₂.heap.objs.size=none:=fresh₀ _ (Nat.le_refl _)
 have hC₀:h₀.get? H2.objs.size=none:=fresh₀ _ (by rw[hC];exact Nat.le_succ _)
 have hX₀:h₀.get? X=none:=fresh₀ _ (by rw[hX'];exact Nat.le_succ_of_le (Nat.le_succ _))
 have hLlt:L<s₂.heap.objs.size:=F.ns.lt
 have hDL:s₂.heap.objs.size≠L:=Ne.symm (below L hLlt).2.1
 have hCL:H2.objs.size≠L:=Ne.symm (below L hLlt).1
 have hXL:X≠L:=Ne.symm (below L hLlt).2.2
 have hCI:I≠H2.objs.size:=(below I hIlt).1
 have hDI:I≠s₂.heap.objs.size:=(below I hIlt).2.1
 have hXI:I≠X:=(below I hIlt).2.2
 have off₀:Off3 I H2.objs.size s₂.heap.objs.size news:=Off3.of fun p hp=>⟨off p hp,(below _ (Heap.lt_size (N p hp).1)).1,(below _ (Heap.lt_size (N p hp).1)).2.1⟩
 have offX:∀p∈news,p.1≠X:=fun p hp=>(below _ (Heap.lt_size (N p hp).1)).2.2
 have loop:∀s₃:Shared,s₃={ s₂ with heap:=h₁ }->
   codeAny (model prog w) A (.compLoop (.ListComp elt [⟨.Name x px,iter,[],0⟩] scope pos) 0 (.ref I) (.ref s₂.heap.objs.size) (compEnvC scope ((x,X)::cl) H2.objs.size env))
    (RR (.ref s₂.heap.objs.size) H2.objs.size) s₃:=by
  rintro s₃ rfl
  refine codeAny_compLoop_tests
   (fun k s'=>∃h' tk i ys m' oX vX news',s'={ s₂ with heap:=h',toks:=tk }/\i<=n/\k=n+1-i/\ys.length<=i/\St i h'/\Fr h₀ L h' m/\h'.Ns H2.objs.size m'/\oX.data=.cell vX/\News h₀ L h' ((s₂.heap.objs.size,lst ys)::(X,oX)::news')/\
    Off3 I H2.objs.size s₂.heap.objs.size news'/\(∀p∈news',p.1≠X)/\S news'/\R i ys news') ?_ (n+1)
   (Uc.ei8 h₁ _ 0 ([]) _ ({ cls:=.type "cell",data:=.cell none }) none news ⟨rfl,Nat.zero_le _,rfl,Nat.le_refl _,hst₁,F.keeps old,hns₁,rfl,fun p hp=>?_,off₀,offX,hS,hR⟩)
  ·intro k s' q0;(refine Uc.ex8 q0 fun h' tk i ys m' oX vX news'=>Uc.an13 fun e1q hi e2q hyl hst' F' hn' hoX N' off' offX' hS' R'=>?_;clear q0;subst e1q;subst e2q)
   have zX:=(N' (X,oX) (.tail _ (.head _))).1
   by_cases hlt:i<n
   ·refine W.item i _ _ _ hlt hst' fun v h₂ tk₂ hPv hst₂ hk₂=>?_
    refine wpAny_assign_Name (wpAny_storeName_cell hkind hx (by simp[compEnvC]) ⟨oX,hk₂ _ oX (by simpa using Ne.symm hXI) zX,hoX⟩ (fun h₃ hc₃ hs₃=>?_))
    (refine Uc.ex1 hc₃ fun oX'=>Uc.an2 fun heX hoX'=>?_;clear hc₃)
    have hst₃:St (i+1) h₃:=W.frame _ _ _ hst₂ fun b hb o e=>hs₃.extBut b o (fun q=>hXf (by have q':b=X:=q;rw[<-q'];exact hb)) e
    (refine Uc.ex1 (hIo _ _ hst₃) fun oI heI=>?_)
    have hn₃:h₃.Ns H2.objs.size m':=(hn'.at' fun o e=>hk₂ _ o (by simpa using Ne.symm hCI) e).sameBut hs₃ (Ne.symm (fun e=>hCX e.symm))
    (refine Uc.ex1 (ns_obj hn₃) fun oC=>Uc.an2 fun heC hoC=>?_)
    have F₃:Fr h₀ L h₃ m:=(fr_but F' hk₂ hIL hI₀).change hs₃ hXL hX₀
    have off3:=off'.mem
    have N₂:News h₀ L h₂ ((s₂.heap.objs.size,lst ys)::news'):=news_but (News.sub N' fun p hp=>by
     rcases List.mem_cons.mp hp with rfl|hp
     ·exact .head _
     ·exact .tail _ (.tail _ hp)) hk₂ fun p hp=>by
     rcases List.mem_cons.mp hp with rfl|hp
     ·exact Ne.symm hDI
     ·exact(off3 p hp).1
    have N₃:News h₀ L h₃ ((I,oI)::(H2.objs.size,oC)::(s₂.heap.objs.size,lst ys)::(X,oX')::news'):=fun p hp=>by
     rcases List.mem_cons.mp hp with rfl|hp
     ·exact⟨heI,Ne.symm hIL,hI₀⟩
     rcases List.mem_cons.mp hp with rfl|hp
     ·exact⟨heC,hCL,hC₀⟩
     rcases List.mem_cons.mp hp with rfl|hp
     ·have z:=N₂ _ (.head _)
      exact⟨hs₃.extBut _ _ hDX z.1,z.2⟩
     rcases List.mem_cons.mp hp with rfl|hp
     ·exact⟨heX,hXL,hX₀⟩
     ·have z:=N₂ p (.tail _ hp)
      exact⟨hs₃.extBut _ _ (offX' p hp) z.1,z.2⟩
    rw[List.forIn_nil]
    refine wpAny_pure ?_
    simp only[if_true]
    refine wpAny_mono (T X oX' i v ys news' I oI H2.objs.size oC s₂.heap.objs.size _ h₃ _ _ hlt hPv R' hS' hoC hoX' F₃ N₃ ⟨⟨Ne.symm hXI,Ne.symm hCX,Ne.symm hDX⟩,off'⟩ offX' ⟨hCI,hDI,Ne.symm hDC⟩) (fun y s₄ q=>?_) fun _ _ e=>e
    (refine Uc.ex3 q fun h₄ tk₄ n₄=>Uc.an5 fun e1q F₄ N₄ off₄ q1q=>Uc.ex1 q1q fun news₄=>Uc.an4 fun e2q offX₄ hS₄ R₄=>?_;clear q q1q;subst e1q;subst e2q)
    have zI:=(N₄ (I,oI) List.mem_cons_self).1
    have zC:=(N₄ (H2.objs.size,oC) (List.mem_cons_of_mem _ List.mem_cons_self)).1
    have zD:=(N₄ (s₂.heap.objs.size,lst ys) (List.mem_cons_of_mem _ (List.mem_cons_of_mem _ List.mem_cons_self))).1
    have N₄':News h₀ L h₄ ((X,oX')::news₄):=fun p hp=>N₄ p (List.mem_cons_of_mem _ (List.mem_cons_of_mem _ (List.mem_cons_of_mem _ hp)))
    have hst₄:=hSt _ _ _ _ _ hst₃ heI zI F₄.keep (fun p hp=>N₄' p (.tail _ hp)) hS₄
    refine append_at (hsz:=by show ys.toArray.size<=sizeLine;rw[List.size_toArray];exact Nat.le_trans hyl (Nat.le_trans hi hsz)) zD fun h₅ hs₅ hD₅=>?_
    have off4:=off₄.mem
    refine⟨n+1-(i+1),Nat.sub_lt_sub_left (Nat.lt_succ_of_lt hlt) (Nat.lt_succ_self i),Uc.ei8 h₅ tk₄ (i+1) (ys++[y]) _ oX' _ news₄ ⟨rfl,hlt,rfl,by rw[List.length_append,List.length_singleton];omega,W.frame _ _ _ hst₄ fun b hb o e=>hs₅.extBut b o (fun q=>hDf (q▸hb)) e,F₄.change hs₅ hDL hD₀,(hoC.ns zC).sameBut hs₅ (Ne.symm hDC),hoX',fun p hp=>?_,off₄.2,offX₄,hS₄,R₄⟩⟩
    rcases List.mem_cons.mp hp with rfl|hp
    ·exact⟨hD₅.trans (congrArg some (lst_snoc ys y)),hDL,hD₀⟩
    ·exact⟨hs₅.extBut _ _ (off4 p hp).2.2 (N₄' p hp).1,(N₄' p hp).2⟩
   ·obtain rfl:i=n:=Nat.le_antisymm hi (Nat.not_lt.mp hlt)
    refine W.done _ _ _ hst' fun h₂ tk₂ hk₂=>?_
    have off3:=off'.mem
    exact hRR _ _ h₂ tk₂ _ ys news' (fr_but F' hk₂ hIL hI₀) (news_but (News.sub N' fun p hp=>by
     rcases List.mem_cons.mp hp with rfl|hp
     ·exact .head _
     ·exact .tail _ (.tail _ hp)) hk₂ fun p hp=>by
     rcases List.mem_cons.mp hp with rfl|hp
     ·exact Ne.symm hDI
     ·exact(off3 p hp).1) off'.one (hn'.at' fun o e=>hk₂ _ o (by simpa using Ne.symm hCI) e) hC₀ hD₀ hCL hDL (Ne.symm hDC) (fun p hp=>(off3 p hp).2.1) R'
  ·rcases List.mem_cons.mp hp with rfl|hp
   ·exact⟨hacc,hDL,hD₀⟩
   rcases List.mem_cons.mp hp with rfl|hp
   ·exact⟨hXcell,hXL,hX₀⟩
   ·exact⟨old _ _ (N p hp).1,(N p hp).2⟩
 exact codeAny_compStart_list (loop _ rfl) (W.self 0 _ _ _ hst₁ (loop _ rfl))
end
end Uc
end
section
namespace Uc
open PyProof.Rows.LCg
section
variable {prog:Program}{w:World}{A:Around}{E:Value->Shared->Prop}{s:Shared}{h₀:Heap}{L:Addr}{m:Str->Option Value}{env:Env}
noncomputable def CompLX (prog:Program)(w:World)(A:Around)(env:Env)(elt:Expr)(x:Str)(scope:Scope)(cl:List (Str×Addr))(Q:Value->Shared->Prop)(xv:Value)(s₁:Shared):Prop:=
 ∃(h₀:Heap) (L:Addr) (m:Str->Option Value) (ax:Addr) (its:List Value) (k:Nat) (news:List (Addr×Obj)) (R:Nat->List Value->List (Addr×Obj)->Prop),xv=.ref ax/\A.handled=none/\Fr h₀ L s₁.heap m/\News h₀ L s₁.heap news/\(ax,listOf its.toArray k)∈news/\its.length<=10000/\R 0 [] news/\
  (∀g,TurnsX prog w A h₀ L m env elt x scope cl its.length (fun i v=>its[i]? =some v) (fun nw=>(ax,listOf its.toArray k)∈nw) R { s₁ with heap:=g })/\
  ∀D h tk ys news',R its.length ys news'->Fr h₀ L h m->News h₀ L h ((D,lst ys)::news')->Off1 D news'->Q (.ref D) { s₁ with heap:=h,toks:=tk }
theorem comp_listX {elt iter:Expr}{x:Str}{px:Pos}{scope:Scope}{cl:List (Str×Addr)}{pos:Pos}{Q:Value->Shared->Prop}
  (hclos:closureFor scope env=pure cl) (hcells:∀k,cellsFrom k scope.names cl=(x,k)::cl) (hpush:∀h,pushCells h scope.names=h.push { cls:=.type "cell",data:=.cell none }) (hkind:scope.kind=.function)
  (hnames:∀y∈scope.names,y.2=.local->scope.names.lookup y.1=some .local) (hx:(relabel scope env).names.lookup x=some .cell)
  (h:wpAny (model prog w) A (eval iter env) (CompLX prog w A env elt x scope cl Q) E s)
  (hs:∀x,foldedSetIterable iter env x=pure x:=by intro _;rfl):
  wpAny (model prog w) A (eval (.ListComp elt [⟨.Name x px,iter,[],0⟩] scope pos) env) Q E s:=by
 rw[eval_ListComp]
 refine wpAny_comprehension_free (use:=none) rfl hs hclos hkind hnames (wpAny_mono h (fun xv s₁ h₁=>?_) fun _ _ e=>e)
 (refine Uc.ex8 h₁ fun h₀ L m ax its k news R=>Uc.an9 fun e1q hh F N hm hsz hR T fin=>?_;clear h₁;subst e1q)
 have hl:s₁.heap.IsList ax its.toArray:=⟨_,(N _ hm).1,rfl,k,rfl⟩
 have hlt:ax<s₁.heap.objs.size:=Heap.lt_size (N _ hm).1
 refine wpAny_pyIter_list hl ?_
 have W:Walks prog w A s₁.heap.objs.size [s₁.heap.objs.size,ax] [s₁.heap.objs.size] its.length (fun i v=>its[i]? =some v) (fun i h=>h.IsListIter s₁.heap.objs.size ax i/\h.IsList ax its.toArray):=by
  have:=Walks.list (prog:=prog) (w:=w) (A:=A) hh s₁.heap.objs.size ax (Nat.ne_of_lt hlt) its.toArray
  simpa using this
 refine comp_blockX (S:=fun nw=>(ax,listOf its.toArray k)∈nw) W (Nat.le_trans hsz (by decide)) (fun i h st=>by obtain⟨o,e,_⟩:=st.1;exact⟨o,e⟩) (fun i h h' o nw st e1 e2 k0 N' S'=>by
   obtain⟨o',g1,g2⟩:=st.1
   rw[e1] at g1;cases g1
   exact⟨⟨o,e2,g2⟩,⟨_,(N' _ S').1,rfl,k,rfl⟩⟩) hcells hpush hkind hx ⟨⟨_,Heap.get?_push_size _ rfl,rfl,rfl⟩,hl.push _⟩ (fun b hb=>by
   show b<(s₁.heap.push _).objs.size
   rw[Heap.size_push]
   rcases List.mem_cons.mp hb with rfl|hb
   ·exact Nat.lt_succ_self _
   ·rw[List.mem_singleton.mp hb];exact Nat.lt_succ_of_lt hlt)
  (F.push _) (fun p hp=>⟨Heap.get?_push_of_some _ (N p hp).1,(N p hp).2⟩) (Nat.ne_of_lt F.ns.lt) (next_is_new F) (fun p hp=>Nat.ne_of_lt (Heap.lt_size (N p hp).1)) hm hR (T _) ?_
 intro D C h tk m' ys news' F' N' o1 hn hC₀ hD₀ hCL hDL hCD offC r
 refine⟨m',hn,fun h'' hs''=>fin D h'' tk ys news' r (F'.change hs'' hCL hC₀) (fun p hp=>?_) o1⟩
 refine⟨hs''.extBut _ _ ?_ (N' p hp).1,(N' p hp).2⟩
 rcases List.mem_cons.mp hp with rfl|hp
 ·exact Ne.symm hCD
 ·exact offC p hp
end
end Uc
end
section
namespace Uc
theorem inner_cons (c x:Nat)(xs:List Nat)(r:Int)(rs:List Int)(d res mn:Int):inner c (x::xs) (r::rs) d res mn=(min (min res r+2) (d+cst c x)::(inner c xs rs r (min (min res r+2) (d+cst c x)) (if min (min res r+2) (d+cst c x)<mn then min (min res r+2) (d+cst c x) else mn)).1,(inner c xs rs r (min (min res r+2) (d+cst c x)) (if min (min res r+2) (d+cst c x)<mn then min (min res r+2) (d+cst c x) else mn)).2):=rfl
theorem inner_turn {c:Nat}{U:List Nat}{row:List Int}{j:Nat}{d res mn ρ:Int}{X:List Int×Int×Int}(hj:j<U.length)(hjr:j<row.length)(hρ:ρ=min (min res (row.getD j 0)+2) (d+cst c (U.getD j 0)))
  (hJ:X=(row.take j++(inner c (U.drop j) (row.drop j) d res mn).1,(inner c (U.drop j) (row.drop j) d res mn).2)):
  X=((row.set j ρ).take (j+1)++(inner c (U.drop (j+1)) ((row.set j ρ).drop (j+1)) (row.getD j 0) ρ (if ρ<mn then ρ else mn)).1,(inner c (U.drop (j+1)) ((row.set j ρ).drop (j+1)) (row.getD j 0) ρ (if ρ<mn then ρ else mn)).2):=by
 have hU':U.drop j=U.getD j 0::U.drop (j+1):=drop_getD hj
 have hR':row.drop j=row.getD j 0::row.drop (j+1):=(List.drop_eq_getElem_cons hjr).trans (by rw[List.getD_eq_getElem?_getD,List.getElem?_eq_getElem hjr];rfl)
 rw[hU',hR',inner_cons, <-hρ] at hJ
 rw[hJ,List.drop_set_of_lt (Nat.lt_succ_self j),List.take_succ,List.take_set_of_le (Nat.le_refl j),List.getElem?_set_self hjr,Option.toList_some,List.append_assoc,List.singleton_append]
theorem outer_turn {U cs:List Nat}{mx x d res mn:Int}{c i:Nat}{row row':List Int}(hJ:inner c U row ((i:Int)*2) ((i:Int)*2) BIG=(row'++(inner c [] [] d res mn).1,(inner c [] [] d res mn).2)):
  outer U mx (c::cs) i row x=if mx<mn then mx+1 else outer U mx cs (i+1) row' res:=by
 have e:inner c U row ((i:Int)*2) ((i:Int)*2) BIG=(row',res,mn):=hJ.trans (show(row'++[],res,mn)=_ by rw[List.append_nil])
 show(if mx<(inner c U row ((i:Int)*2) ((i:Int)*2) BIG).2.2 then mx+1 else outer U mx cs (i+1) (inner c U row ((i:Int)*2) ((i:Int)*2) BIG).1 (inner c U row ((i:Int)*2) ((i:Int)*2) BIG).2.1)=_
 rw[e]
section
variable (w:World)(p:Program)(loose:List Str)(mean:ExcName->Option Value)(mg mb:Str->Option Value)
theorem int_is {x y:Int}{t:Tok}(h:x=y):Value.int x t=Value.int y t:=by rw[h]
theorem sub_cost (news:List (Addr×Obj))(a b:Str)(ta tb:Tok)(ha:a.length<=5000)(hb:b.length<=5000):
  Con w p loose mean mg mb 200 4 12 [.str a ta,.str b tb] news (fun _=>True) (fun v n=>n=news/\∃t,v=.int (subCost a b) t):=by
 dsimp only[Con,Pm]
 k_fill
 (set_option tactic.hygienic true in intros)
 rename_i hret
 refine wpAny_call ?_
 k_dflt cell_enter
 (refine Uc.letAE ?_;intro AA EE)
 repeat' (first|(walk_at "P")|(walk_at "V";first|((with_reducible show wpAny _ _ (call (Value.builtin "str.lower") _) _ _ _);refine SCL.lower (by omega) ?_;intro hLow)|(walk_at "T")))
 ·rename (_==_)=true=>h1
  exact hret _ _ _ _ ⟨rfl,_,int_is (by rw[beq_iff_eq] at h1;rw[subCost,if_pos h1])⟩ ‹_› ‹_›
 ·rename (a==b)=false=>h1
  rename (_==_)=true=>h2
  exact hret _ _ _ _ ⟨rfl,_,int_is (by rw[beq_eq_false_iff_ne] at h1;rw[beq_iff_eq] at h2;rw[subCost,if_neg h1,if_pos h2])⟩ ‹_› ‹_›
 ·rename (a==b)=false=>h1
  rename (Txt.lower _==_)=false=>h2
  exact hret _ _ _ _ ⟨rfl,_,int_is (by rw[beq_eq_false_iff_ne] at h1 h2;rw[subCost,if_neg h1,if_neg h2])⟩ ‹_› ‹_›
noncomputable def subR2 (a b:Str):List PV->Rs
 | []=>.cond (a.length<=5000/\b.length<=5000) (.int (subCost a b))
 |_::_=>.bad
noncomputable def subR1 (a:Str):List PV->Rs
 | .str b::r=>subR2 a b r
 |_=>.bad
noncomputable def subR:List PV->Rs
 | .str a::r=>subR1 a r
 |_=>.bad
theorem sub_fn {C:Cx}{pre:Heap->Prop}{d u:Nat}(ok:CxOk C p loose mean mg mb pre d u)(hx:C.env.kindOf (ofString "_substitution_cost")=some .globalImplicit)(hw:C.w=w)(hd:4<=d)(hu:12<=u):FnOk C (ofString "_substitution_cost") subR:=by
 refine FnOk.con ok rfl keep_sub hx rfl ?_
 subst hw
 intro m nw ps vs Q hv hr
 cases hv with
 |nil=>exact hr.elim
 |@cons p1 v1 ps1 vs1 h1 r1=>
  cases r1 with
  |nil=>cases p1<;>exact hr.elim
  |@cons p2 v2 ps2 vs2 h2 r2=>
   obtain⟨u1,rfl⟩:=h1
   obtain⟨u2,rfl⟩:=h2
   cases p1<;>try exact hr.elim
   cases p2<;>try exact hr.elim
   cases r2 with
   |cons _ _=>exact hr.elim
   |nil=>exact ok.call (sub_cost C.w p loose mean mg mb nw _ _ _ _ hr.1.1 hr.1.2) (fun v nw' ⟨e1,t,e2⟩=>by subst e1 e2;exact hr.2 t) (fun _ _=>trivial) hd hu
theorem wt_side {la lb s1 s2 k:Nat}{x:Int}(ha:la<=1000)(hb:lb<=1000)(e1:s1=la-k)(e2:s2=lb-k)(hx:0<s1->0<s2->(-(la:Int)<=x/\x<la)/\(-(lb:Int)<=x/\x<lb)):
  (la<=16777216/\s1<=16777216)/\(0<s1->(lb<=16777216/\s2<=16777216)/\(0<s2->(la<=16777216/\ -(la:Int)<=x/\x<la)/\lb<=16777216/\ -(lb:Int)<=x/\x<lb)):=by
 have a1:la<=16777216:=Nat.le_trans ha (by decide)
 have b1:lb<=16777216:=Nat.le_trans hb (by decide)
 have a2:s1<=16777216:=by rw[e1];exact Nat.le_trans (Nat.sub_le _ _) a1
 have b2:s2<=16777216:=by rw[e2];exact Nat.le_trans (Nat.sub_le _ _) b1
 exact⟨⟨a1,a2⟩,fun h1=>⟨⟨b1,b2⟩,fun h2=>⟨⟨a1,(hx h1 h2).1⟩,b1,(hx h1 h2).2⟩⟩⟩
theorem wt_pre {la lb k:Nat}(h1:0<la-k)(h2:0<lb-k):(-(la:Int)<=(k:Int)/\(k:Int)<la)/\(-(lb:Int)<=(k:Int)/\(k:Int)<lb):=by omega
theorem wt_post {la lb k:Nat}(h1:0<la-k)(h2:0<lb-k):(-(la:Int)<= -(k:Int)-1/\ -(k:Int)-1<la)/\(-(lb:Int)<= -(k:Int)-1/\ -(k:Int)-1<lb):=by omega
set_option tactic.hygienic true in
theorem lev (news:List (Addr×Obj))(a b:Str)(ta tb tm:Tok)(mx:Int)(ha:a.length<=1000)(hb:b.length<=1000)(h1: -1000<=mx)(h2:mx<=100000):
  Con w p loose mean mg mb 207 8 30 [.str a ta,.str b tb,.int mx tm] news (fun _=>True) (fun v n=>n=news/\∃t,v=.int (levS a b mx) t):=by
 dsimp only[Con,Pm]
 k_fill
 (set_option tactic.hygienic true in intros)
 rename_i hret
 refine wpAny_call ?_
 k_dflt cell_enter
 rename Fr _ _ _ _=>F0
 rename News _ _ _ _=>N0
 refine Uc.J.start (gl_ok ‹_› ‹_›) F0 N0 rfl rfl (by ktr_units) ?_
 clear F0 N0
 rename_i qk ek
 intro C
 obtain⟨z,hz⟩:∃z,z=levS a b mx:=⟨_,rfl⟩
 have ret:∀{m:Str->Option Value} {v:Value} {h:Heap} {tk:Nat} {nw:Led},(∃t,v=.int z t)->Fr C.h₀ C.L h m->News C.h₀ C.L h nw->(∀p∈news,p∈nw)->C.Q (.ret v) (C.sg h tk):=by
  intro m v h tk nw hv F N hs
  dsimp only[C,qk] at F N ⊢
  exact leaveK_ F N fun kF kN=>hret _ _ _ _ ⟨rfl,hz▸hv⟩ kF (News.sub kN hs)
 have okC:CxOk C p loose mean mg mb (fun _=>True) 4 12:=⟨rfl,by assumption,by assumption,_,_,_,_,_,_,rfl,⟨_,_,_,_,_,rfl,rfl⟩,by assumption,trivial,by ktr_room,by ktr_units⟩
 have hF:=sub_fn w p loose mean mg mb okC rfl rfl (by decide) (by decide)
 ((repeat(refine Uc.J.nil ?_));walk_at "i")<;>intro hab
 ·((repeat(refine Uc.J.nil ?_));walk_at "e");intro t h tk F N
  exact ret ⟨_,int_is (by rw[hz];subst hab;simp[levS,levL])⟩ F N fun _ h=>h
 have hE:PassesOwn (model C.prog C.w) C.A C.env C.E:=PassesOwn.leaving
 have hab':a.cps.toList≠b.cps.toList:=fun e=>hab (by cases a;cases b;simp only[PySem.Str.mk.injEq];exact Array.toList_inj.mp e)
 refine J.gen [(ofString "a",.str a ta),(ofString "b",.str b tb),(ofString "max_cost",.int mx tm)] ⟨rfl,rfl,rfl,trivial⟩ fun u=>?_
 ((repeat(refine Uc.J.nil ?_));walk_at "a");intro t
 refine J.while (σ:=Nat×Tok) (fun _=>news) (fun c=>[(ofString "pre",.int c.1 c.2),(ofString "a",.str a ta),(ofString "b",.str b tb),(ofString "max_cost",.int mx tm)])
   (fun c=>c.1<=a.length/\c.1<=b.length/\sPre (a.cps.toList.drop c.1) (b.cps.toList.drop c.1)=sPre a.cps.toList b.cps.toList) (fun c=>a.length-c.1) (0,t) (fun _=>{ gl:=C.gl }) (fun _ _ _=>tb0) hE ⟨rfl,rfl,rfl,rfl,trivial⟩ ⟨Nat.zero_le _,Nat.zero_le _,rfl⟩ ?_ fun _ h=>h
 refine fpLooR fun k t=>?_
 intro u hP
 dsimp -zeta only at hP ⊢
 have sa:=slF_len a k
 have sb:=slF_len b k
 refine' Uc.Bs.holds_c ?jp (wt_side ha hb sa sb fun h1 h2=>wt_pre (sa▸h1) (sb▸h2)) ⟨fun hp=>?_,fun hp=>?_⟩
 case jp=>exact rfl
 ·intro C0
  ((repeat(refine Uc.J.nil ?_));(first|(refine' Uc.J.aug ?ht ?jp ?jx ?_;(case ht=>walk_at "h");(case jp=>exact rfl);(case jx=>exact rfl);skip)|(refine' Uc.J.aug_c ?ht ?jp ?jx ?jc ?_;(case ht=>walk_at "h");(case jp=>exact rfl);(case jx=>exact rfl);(case jc=>first|omega|skip))))
  intro t'
  have ka:k<a.length:=by omega
  have kb:k<b.length:=by omega
  have he:=hp.2.2
  rw[item_nat a k ka,item_nat b k kb,sgl_eq] at he
  exact J.turn (k+1,t') ⟨rfl,rfl,rfl,rfl,trivial⟩ ⟨ka,kb,(sPre_step ka kb he).trans hP.2.2⟩ (Nat.sub_succ_lt_self _ _ ka) fun _ h=>h
 have hZ:sPre a.cps.toList b.cps.toList=(a.cps.toList.drop k,b.cps.toList.drop k):=by
  refine hP.2.2.symm.trans (sPre_stop ?_)
  by_cases ka:k<a.length
  ·by_cases kb:k<b.length
   ·refine .inr (.inr fun e=>hp ⟨by omega,by omega,?_⟩)
    rw[item_nat a k ka,item_nat b k kb,sgl_eq]
    exact e
   ·exact .inr (.inl (Nat.le_of_not_lt kb))
  ·exact .inl (Nat.le_of_not_lt ka)
 clear hp hP sa sb
 ((repeat(refine Uc.J.nil ?_));walk_at "a");intro t1
 ((repeat(refine Uc.J.nil ?_));walk_at "a");intro t2
 ((repeat(refine Uc.J.nil ?_));walk_at "a");intro t3
 dsimp only[PV.den]
 rw[slF a k,slF b k]
 have lA:(a.cps.toList.drop k).length<=1000:=by rw[List.length_drop];exact Nat.le_trans (Nat.sub_le _ _) ha
 have lB:(b.cps.toList.drop k).length<=1000:=by rw[List.length_drop];exact Nat.le_trans (Nat.sub_le _ _) hb
 have hL:levS a b mx=lev2 (sPre (a.cps.toList.drop k).reverse (b.cps.toList.drop k).reverse).1.reverse (sPre (a.cps.toList.drop k).reverse (b.cps.toList.drop k).reverse).2.reverse mx:=by
  unfold levS levL
  rw[if_neg hab',hZ]
 rw[hL] at hz
 clear hL hZ hab' hab ha hb
 obtain⟨A,hA⟩:∃A,A=a.cps.toList.drop k:=⟨_,rfl⟩
 obtain⟨B,hB⟩:∃B,B=b.cps.toList.drop k:=⟨_,rfl⟩
 rw[<-hA] at hz lA ⊢
 rw[<-hB] at hz lB ⊢
 clear hA hB
 have eA:=str_len A
 have eB:=str_len B
 refine J.while (σ:=Nat×Tok) (fun _=>news) (fun c=>[(ofString "post",.int (-(c.1:Int)) c.2),(ofString "a",.str ⟨A.toArray⟩ t1),(ofString "b",.str ⟨B.toArray⟩ t2),(ofString "max_cost",.int mx tm)])
   (fun c=>c.1<=A.length/\c.1<=B.length/\sPre (A.reverse.drop c.1) (B.reverse.drop c.1)=sPre A.reverse B.reverse) (fun c=>A.length-c.1) (0,t3) (fun _=>{ gl:=C.gl }) (fun _ _ _=>tb0) hE ⟨rfl,rfl,rfl,rfl,trivial⟩ ⟨Nat.zero_le _,Nat.zero_le _,rfl⟩ ?_ fun _ h=>h
 refine fpLooR fun q t=>?_
 intro u hP
 dsimp -zeta only at hP ⊢
 have qA:q<=Str.length ⟨A.toArray⟩:=by rw[eA];exact hP.1
 have qB:q<=Str.length ⟨B.toArray⟩:=by rw[eB];exact hP.2.1
 have sa:=slQ_len ⟨A.toArray⟩ q qA
 have sb:=slQ_len ⟨B.toArray⟩ q qB
 refine' Uc.Bs.holds_c ?jp (wt_side (eA▸lA) (eB▸lB) sa sb fun h1 h2=>wt_post (sa▸h1) (sb▸h2)) ⟨fun hp=>?_,fun hp=>?_⟩
 case jp=>exact rfl
 ·intro C0
  ((repeat(refine Uc.J.nil ?_));(first|(refine' Uc.J.aug ?ht ?jp ?jx ?_;(case ht=>walk_at "h");(case jp=>exact rfl);(case jx=>exact rfl);skip)|(refine' Uc.J.aug_c ?ht ?jp ?jx ?jc ?_;(case ht=>walk_at "h");(case jp=>exact rfl);(case jx=>exact rfl);(case jc=>first|omega|skip))))
  intro t'
  have ka:q<A.length:=by omega
  have kb:q<B.length:=by omega
  have he:=hp.2.2
  rw[item_rev _ q (by rw[eA];exact ka),item_rev _ q (by rw[eB];exact kb),sgl_eq] at he
  exact J.turn (q+1,t') ⟨congrArg some (int_is (show -(q:Int)-1= -((q+1:Nat):Int) by omega)),rfl,rfl,rfl,trivial⟩
   ⟨ka,kb,(sPre_step (by rw[List.length_reverse];exact ka) (by rw[List.length_reverse];exact kb) he).trans hP.2.2⟩ (Nat.sub_succ_lt_self _ _ ka) fun _ h=>h
 have hZ:sPre A.reverse B.reverse=(A.reverse.drop q,B.reverse.drop q):=by
  refine hP.2.2.symm.trans (sPre_stop ?_)
  by_cases ka:q<A.length
  ·by_cases kb:q<B.length
   ·refine .inr (.inr fun e=>hp ⟨by omega,by omega,?_⟩)
    rw[item_rev _ q (by rw[eA];exact ka),item_rev _ q (by rw[eB];exact kb),sgl_eq]
    exact e
   ·exact .inr (.inl (by rw[List.length_reverse];exact Nat.le_of_not_lt kb))
  ·exact .inl (by rw[List.length_reverse];exact Nat.le_of_not_lt ka)
 rw[hZ] at hz
 dsimp only at hz
 rw[List.drop_reverse,List.drop_reverse,List.reverse_reverse,List.reverse_reverse] at hz
 clear hp hP hZ
 ((repeat(refine Uc.J.nil ?_));walk_at "a");intro t4
 ((repeat(refine Uc.J.nil ?_));walk_at "a");intro t5
 dsimp only[PV.den]
 rw[slQ _ q qA,slQ _ q qB,eA,eB]
 clear sa sb qA qB eA eB
 have lX:(A.take (A.length-q)).length<=1000:=by rw[List.length_take];exact Nat.le_trans (Nat.min_le_right _ _) lA
 have lY:(B.take (B.length-q)).length<=1000:=by rw[List.length_take];exact Nat.le_trans (Nat.min_le_right _ _) lB
 dsimp only
 obtain⟨X,hX⟩:∃X,X=A.take (A.length-q):=⟨_,rfl⟩
 obtain⟨Y,hY⟩:∃Y,Y=B.take (B.length-q):=⟨_,rfl⟩
 rw[<-hX] at hz lX ⊢
 rw[<-hY] at hz lY ⊢
 clear hX hY lA lB
 refine J.gen [(ofString "a",.str ⟨X.toArray⟩ t4),(ofString "b",.str ⟨Y.toArray⟩ t5),(ofString "max_cost",.int mx tm)] ⟨rfl,rfl,rfl,trivial⟩ fun u=>?_
 have eX:=str_len X
 have eY:=str_len Y
 ((repeat(refine Uc.J.nil ?_));walk_at "i")<;>intro h0
 ·((repeat(refine Uc.J.nil ?_));walk_at "e")
  intro t h tk F N
  refine ret ⟨_,int_is ?_⟩ F N fun _ h=>h
  rw[hz,lev2,if_pos (by omega),eX,eY]
 have z0:¬ (X.length=0∨Y.length=0):=by omega
 clear h0
 ((repeat(refine Uc.J.nil ?_));walk_at "i")<;>intro h40
 ·((repeat(refine Uc.J.nil ?_));walk_at "e")
  intro t h tk F N
  refine ret ⟨_,int_is ?_⟩ F N fun _ h=>h
  rw[hz,lev2,if_neg z0,if_pos (by omega)]
 have z40:¬ (40<X.length∨40<Y.length):=by omega
 clear h40
 have fin:∀(U V:List Nat) (t1 t2 t3:Tok) (u:Str->Option Value),lev2 X Y mx=lev3 U V mx->1<=U.length->U.length<=V.length->V.length<=40->
  J C (fm u [(ofString "a",.str ⟨U.toArray⟩ t1),(ofString "b",.str ⟨V.toArray⟩ t2),(ofString "max_cost",.int mx t3)]) news (Uc.f15_body.drop 12) []:=by
  intro U V t1 t2 t3 u hT hU1 hUV hV
  rw[hT] at hz
  clear hT lX lY eX eY z0 z40
  have lU:=str_len U
  have lV:=str_len V
  ((repeat(refine Uc.J.nil ?_));walk_at "i")<;>intro h0
  ·((repeat(refine Uc.J.nil ?_));walk_at "e")
   intro t h tk F N
   exact ret ⟨_,int_is (by rw[hz,lev3,if_pos (by omega)])⟩ F N fun _ h=>h
  (repeat(refine Uc.J.nil ?_))
  refine J.lrange U.length tb0 rfl rfl (range3 tb0 rfl rfl rfl rfl ⟨by decide,by decide⟩ ?_ ?_ ?_) (rsmall (a:=2) (b:=2*((Str.length ⟨U.toArray⟩:Int)+1)) (c:=2) (by omega) (by omega) (by omega) (by omega) (by omega) (by omega)) (rsize2 (by omega)) (by omega) rfl rfl ?_
  ·walk_at "s";exact rfl
  ·walk_at "s";exact rfl
  ·walk_at "s";exact rfl
  intro l vs cnt hl hlen hvs
  ((repeat(refine Uc.J.nil ?_));walk_at "a");intro t4
  refine J.forR V.length (σ:=(List Int×List Value×Nat×Int)×Tok×Tok×Tok×Tok) (fun c=>(l,W.listOf c.1.2.1.toArray c.1.2.2.1)::news)
   (fun c=>[(ofString "a",.str ⟨U.toArray⟩ c.2.1),(ofString "b",.str ⟨V.toArray⟩ c.2.2.1),(ofString "max_cost",.int mx c.2.2.2.1),(ofString "row",.ref l),(ofString "result",.int c.1.2.2.2 c.2.2.2.2)])
   (fun i c=>lev3 U V mx=outer U mx (V.drop i) i c.1.1 c.1.2.2.2/\IntsAre c.1.2.1 c.1.1/\c.1.1.length=U.length/\c.1.2.1.length=U.length)
   ((row0 U.length,vs,cnt,0),t1,t2,t3,t4) (range1 (b:=(Str.length ⟨V.toArray⟩:Nat)) tb0 rfl rfl ?hb) (rsmall (by omega) (by omega) (by omega) (by omega) (by omega) (by omega)) (rsize1 (by omega)) hE rfl (fun _=>rfl) ⟨rfl,rfl,rfl,rfl,rfl,trivial⟩ ⟨by rw[lev3,if_neg (by omega)];rfl,hvs,by simp[row0],hlen⟩ ?turn ?done fun _ h=>h
  case hb=>walk_at "s";exact rfl
  case done=>
   refine fpLLooooRooooR fun row ws cn res t1 t2 t3 t4=>?_
   intro u hR
   have hT:=hR.1
   dsimp only at hT ⊢
   rw[List.drop_length] at hT
   ((repeat(refine Uc.J.nil ?_));walk_at "e")
   intro t h tk F N
   exact ret ⟨_,int_is (show res=z from hT.symm.trans hz.symm)⟩ F N fun p hp=>.tail _ hp
  case turn=>
   intro i t
   refine fpLLooooRooooR fun row ws cn res t1 t2 t3 t4=>?_
   intro u I o hi hR hneI hit C1
   have hT:=hR.1
   have hI:=hR.2.1
   have hL:=hR.2.2.1
   have hw:=hR.2.2.2
   clear hR
   dsimp only at hT hI hL hw hneI ⊢
   have hV':V.drop i=V.getD i 0::V.drop (i+1):=drop_getD hi
   rw[hV'] at hT
   refine J.gen [(ofString "bindex",.int (i:Int) t),(ofString "a",.str ⟨U.toArray⟩ t1),(ofString "b",.str ⟨V.toArray⟩ t2),(ofString "max_cost",.int mx t3),(ofString "row",.ref l)] ⟨congrArg some (int_is (by omega)),rfl,rfl,rfl,rfl,trivial⟩ fun u=>?_
   ((repeat(refine Uc.J.nil ?_));walk_at "a");intro t5
   ((repeat(refine Uc.J.nil ?_));(refine' Uc.J.asgD ?ht ?jq ?jx ?jy;(case ht=>walk_at "h");(case jx=>exact rfl);(case jy=>exact rfl);walk_at "s"));intro t6
   ((repeat(refine Uc.J.nil ?_));walk_at "a");intro t7
   dsimp only[PV.den]
   rw[item_nat _ i (by rw[lV];exact hi)]
   refine J.forR U.length (σ:=(List Int×List Value×Nat×Int×Int×Int)×Tok×Tok×Tok×Tok×Tok×Tok×Tok) (fun c=>(l,W.listOf c.1.2.1.toArray c.1.2.2.1)::news++[(I,o)])
    (fun c=>[(ofString "a",.str ⟨U.toArray⟩ c.2.1),(ofString "b",.str ⟨V.toArray⟩ c.2.2.1),(ofString "max_cost",.int mx c.2.2.2.1),(ofString "row",.ref l),(ofString "distance",.int c.1.2.2.2.1 c.2.2.2.2.1),
     (ofString "result",.int c.1.2.2.2.2.1 c.2.2.2.2.2.1),(ofString "minimum",.int c.1.2.2.2.2.2 c.2.2.2.2.2.2.1),(ofString "bchar",.str ⟨#[V.getD i 0]⟩ c.2.2.2.2.2.2.2)])
    (fun j c=>inner (V.getD i 0) U row ((i:Int)*2) ((i:Int)*2) BIG=(c.1.1.take j++(inner (V.getD i 0) (U.drop j) (c.1.1.drop j) c.1.2.2.2.1 c.1.2.2.2.2.1 c.1.2.2.2.2.2).1,(inner (V.getD i 0) (U.drop j) (c.1.1.drop j) c.1.2.2.2.1 c.1.2.2.2.2.1 c.1.2.2.2.2.2).2)
     /\IntsAre c.1.2.1 c.1.1/\c.1.1.length=U.length/\c.1.2.1.length=U.length)
    ((row,ws,cn,(i:Int)*2,(i:Int)*2,BIG),t1,t2,t3,t6,t6,t7,t5) (range1 (b:=(Str.length ⟨U.toArray⟩:Nat)) tb0 rfl rfl ?hb) (rsmall (by omega) (by omega) (by omega) (by omega) (by omega) (by omega)) (rsize1 (by omega)) hE rfl (fun _=>rfl) ⟨rfl,rfl,rfl,rfl,rfl,rfl,rfl,rfl,trivial⟩ ⟨by simp,hI,hL,hw⟩ ?turn ?done fun _ h=>h
   case hb=>walk_at "s";exact rfl
   case done=>
    refine fpLLooooooRoooooooR fun row' ws' cn' d' res' mn' t1 t2 t3 t4 t5 t6 t7=>?_
    intro u hR
    have hJ:=hR.1
    have hI':=hR.2.1
    have hL':=hR.2.2.1
    have hw':=hR.2.2.2
    clear hR
    dsimp only at hJ hI' hL' hw' ⊢
    rw[List.drop_length,List.take_of_length_le (Nat.le_of_eq hL'),List.drop_of_length_le (Nat.le_of_eq hL')] at hJ
    rw[outer_turn hJ] at hT
    ((repeat(refine Uc.J.nil ?_));walk_at "i")<;>intro hm
    ·((repeat(refine Uc.J.nil ?_));walk_at "e")
     intro t h tk F N
     rw[if_pos hm] at hT
     exact C.post_ret (ret ⟨_,int_is (hT.symm.trans hz.symm)⟩ F N fun p hp=>.tail _ (List.mem_append_left _ hp)) _
    ·rw[if_neg hm] at hT
     (repeat(refine Uc.J.nil ?_))
     exact J.tn ((row',ws',cn',res'),_,_,_,_) ⟨rfl,rfl,rfl,rfl,rfl,trivial⟩ ⟨hT,hI',hL',hw'⟩ (by intro p hp;left;simp only[List.mem_cons,List.map_cons] at hp ⊢;rcases hp with rfl|hp<;>first|exact .inl rfl|exact .inr (List.mem_map_of_mem hp)) fun _ h=>h
   case turn=>
    intro j t
    refine fpLLooooooRoooooooR fun row' ws' cn' d' res' mn' t1 t2 t3 t4 t5 t6 t7=>?_
    intro u I' o' hj hR hneI' hit' C2
    have hJ:=hR.1
    have hI':=hR.2.1
    have hL':=hR.2.2.1
    have hw':=hR.2.2.2
    clear hR
    dsimp only at hJ hI' hL' hw' hneI' ⊢
    have l1:Str.length ⟨#[V.getD i 0]⟩=1:=rfl
    have hcj:Txt.item ⟨U.toArray⟩ (j:Int)=⟨#[U.getD j 0]⟩:=item_nat _ j (by rw[lU];exact hj)
    have l2:(Txt.item ⟨U.toArray⟩ (j:Int)).length=1:=by rw[hcj];rfl
    refine J.gen [(ofString "index",.int (j:Int) t),(ofString "a",.str ⟨U.toArray⟩ t1),(ofString "b",.str ⟨V.toArray⟩ t2),(ofString "max_cost",.int mx t3),(ofString "row",.ref l),(ofString "distance",.int d' t4),
     (ofString "result",.int res' t5),(ofString "minimum",.int mn' t6),(ofString "bchar",.str ⟨#[V.getD i 0]⟩ t7)] ⟨congrArg some (int_is (by omega)),rfl,rfl,rfl,rfl,rfl,rfl,rfl,rfl,trivial⟩ fun u=>?_
    refine' J.tab (TbOk.addF (TbOk.addI tb0 (x:=ofString "row") (.loc ?hm rfl rfl) ?hmem hI') hF) fun ht=>?_
    case hm=>exact rfl
    case hmem=>exact .inl ⟨_,.head _⟩
    ((repeat(refine Uc.J.nil ?_));walk_at "a");intro t8
    ((repeat(refine Uc.J.nil ?_));walk_at "a");intro t9
    ((repeat(refine Uc.J.nil ?_));walk_at "a");intro t10
    ((repeat(refine Uc.J.nil ?_));walk_at "a");intro t11
    dsimp only[PV.den]
    obtain⟨ρ,hρ⟩:∃ρ,ρ=min (min res' (row'.getD j 0)+2) (d'+cst (V.getD i 0) (U.getD j 0)):=⟨_,rfl⟩
    have hK:∀mn,mn=(if ρ<mn' then ρ else mn')->inner (V.getD i 0) U row ((i:Int)*2) ((i:Int)*2) BIG=((row'.set j ρ).take (j+1)++(inner (V.getD i 0) (U.drop (j+1)) ((row'.set j ρ).drop (j+1)) (row'.getD j 0) ρ mn).1,(inner (V.getD i 0) (U.drop (j+1)) ((row'.set j ρ).drop (j+1)) (row'.getD j 0) ρ mn).2):=by
     intro mn e
     subst e
     exact inner_turn hj (by rw[hL'];exact hj) hρ hJ
    have hnl:∀p∈news++[(I,o)]++[(I',o')],p.1≠l:=by
     intro p hp
     rcases List.mem_append.mp hp with hp|hp
     ·rcases List.mem_append.mp hp with hp|hp
      ·exact Nat.ne_of_lt (hl p hp)
      ·rw[List.mem_singleton.mp hp];exact(hneI _ (.head _)).symm
     ·rw[List.mem_singleton.mp hp];exact(hneI' _ (.head _)).symm
    have vρ:min (min res' (row'.getD (Int.toNat j) 0)+2) (d'+subCost ⟨#[V.getD i 0]⟩ (Txt.item ⟨U.toArray⟩ (j:Int)))=ρ:=by rw[hcj,hρ];rfl
    rw[vρ]
    refine J.seti (nw:=news++[(I,o)]++[(I',o')]) (k:=j) (v:=ρ) tb0 ?he rfl ?hi ⟨by omega,by omega⟩ hnl rfl fun t12=>?_
    case he=>walk_at "s";exact rfl
    case hi=>walk_at "s";exact rfl
    have fin2:∀(m':Str->Option Value) mn t,(if ρ<mn' then ρ else mn')=mn->Has m' [(ofString "a",.str ⟨U.toArray⟩ t1),(ofString "b",.str ⟨V.toArray⟩ t2),(ofString "max_cost",.int mx t3),(ofString "row",.ref l),(ofString "distance",.int (row'.getD j 0) t9),
     (ofString "result",.int ρ t11),(ofString "minimum",.int mn t),(ofString "bchar",.str ⟨#[V.getD i 0]⟩ t7)]->J C2 m' ((l,W.listOf (ws'.set j (.int ρ t12)).toArray cn')::(news++[(I,o)]++[(I',o')])) [] []:=fun m' mn t e hh=>
     J.tn ((row'.set j ρ,_,_,row'.getD j 0,ρ,mn),t1,t2,t3,_,_,_,_) hh ⟨hK _ e.symm,intsAre_set _ _ hI' j,(List.length_set ..).trans hL',(List.length_set ..).trans hw'⟩ (by first|(intro p hp;left;rcases List.mem_cons.mp hp with rfl|hp<;>first|exact List.mem_map.mpr ⟨_,.head _,rfl⟩|exact List.mem_map.mpr ⟨_,.tail _ hp,rfl⟩)|(intro p hp;left;simp only[List.mem_cons,List.map_cons] at hp ⊢;rcases hp with rfl|hp<;>first|exact .inl rfl|exact .inr (List.mem_map_of_mem hp))) fun _ h=>h
    refine J.gen [(ofString "a",.str ⟨U.toArray⟩ t1),(ofString "b",.str ⟨V.toArray⟩ t2),(ofString "max_cost",.int mx t3),(ofString "row",.ref l),(ofString "distance",.int (row'.getD j 0) t9),
     (ofString "result",.int ρ t11),(ofString "minimum",.int mn' t6),(ofString "bchar",.str ⟨#[V.getD i 0]⟩ t7)] ⟨rfl,rfl,rfl,rfl,rfl,rfl,rfl,rfl,trivial⟩ fun u=>?_
    ((repeat(refine Uc.J.nil ?_));walk_at "i")<;>intro hm
    ·((repeat(refine Uc.J.nil ?_));walk_at "a");intro t13
     (repeat(refine Uc.J.nil ?_))
     exact fin2 _ ρ t13 (if_pos hm) ⟨rfl,rfl,rfl,rfl,rfl,rfl,rfl,rfl,trivial⟩
    ·(repeat(refine Uc.J.nil ?_))
     exact fin2 _ mn' t6 (if_neg hm) ⟨rfl,rfl,rfl,rfl,rfl,rfl,rfl,rfl,trivial⟩
 ((repeat(refine Uc.J.nil ?_));walk_at "i")<;>intro hlt
 ·((repeat(refine Uc.J.nil ?_));(refine' Uc.J.asg2 ?ht rfl rfl ?jw ?jx ?jy ?_;(case ht=>walk_at "h");(case jw=>exact rfl);(case jx=>exact rfl);(case jy=>exact rfl);walk_at "s";walk_at "s"))
  intro t6 t7
  (repeat(refine Uc.J.nil ?_))
  refine J.gen [(ofString "a",.str ⟨Y.toArray⟩ t6),(ofString "b",.str ⟨X.toArray⟩ t7),(ofString "max_cost",.int mx tm)] ⟨rfl,rfl,rfl,trivial⟩ fun u=>?_
  exact fin Y X _ _ _ u (by rw[lev2,if_neg z0,if_neg z40,if_pos (by omega)]) (by omega) (by omega) (by omega)
 (repeat(refine Uc.J.nil ?_))
 exact fin X Y _ _ _ u (by rw[lev2,if_neg z0,if_neg z40,if_neg (by omega)]) (by omega) (by omega) (by omega)
end
end Uc
end
section
namespace Uc
theorem count_ten (T:Int)(c:Nat)(r:List Nat):(if chr1 c=ofString "\n" then T-((c::r).count 10:Int)+1 else T-((c::r).count 10:Int))=T-(r.count 10:Int):=by
 have e:(chr1 c=ofString "\n")↔c=10:=by
  rw[show ofString "\n"=(⟨#[10]⟩:Str) from by rfl]
  unfold chr1
  constructor
  ·intro h;injection h with h;simpa using h
  ·rintro rfl;rfl
 by_cases h:c=10
 ·rw[if_pos (e.mpr h),h,List.count_cons_self];push_cast;(walk_at "O")
 ·rw[if_neg (fun q=>h (e.mp q)),List.count_cons_of_ne (fun q=>h q)]
theorem sub1 (d a0 a1 a2 a3:Nat):∀i,i<4->Builtin.Str.subAt (⟨#[a0,a1,a2,a3]⟩) (chr1 d) i=(#[a0,a1,a2,a3].getD i 0==d):=by
 intro i hi
 have e:∀a:Nat,(#[a]==#[d])=(a==d):=fun a=>by simp
 exact lt4 (P:=fun i=>Builtin.Str.subAt (⟨#[a0,a1,a2,a3]⟩) (chr1 d) i=(#[a0,a1,a2,a3].getD i 0==d)) hi (e a0) (e a1) (e a2) (e a3)
theorem ws_occ (d:Nat):(Builtin.Str.occurrences (ofString "\n\t\r ") (chr1 d) 0 (ofString "\n\t\r ").length 1).isEmpty= !(isWs d):=by
 have e:ofString "\n\t\r "=⟨#[10,9,13,32]⟩:=by rfl
 rw[e]
 have hl:(⟨#[10,9,13,32]⟩:Str).length=4:=rfl
 have h1:(chr1 d).length=1:=rfl
 have s0:=sub1 d 10 9 13 32 0 (by decide)
 have s1:=sub1 d 10 9 13 32 1 (by decide)
 have s2:=sub1 d 10 9 13 32 2 (by decide)
 have s3:=sub1 d 10 9 13 32 3 (by decide)
 unfold Builtin.Str.occurrences
 rw[hl]
 simp only[h1,Std.Legacy.Range.forIn_eq_forIn_range',Std.Legacy.Range.size]
 simp[Id.run,s0,s1,s2,s3,List.range',isWs]
 by_cases a0:10=d
 ·subst a0;rfl
 by_cases a1:9=d
 ·subst a1;rfl
 by_cases a2:13=d
 ·subst a2;rfl
 by_cases a3:32=d
 ·subst a3;rfl
 rw[if_neg a0]
 have b0:(d==10)=false:=by simp;(walk_at "O")
 have b1:(d==9)=false:=by simp;(walk_at "O")
 have b2:(d==13)=false:=by simp;(walk_at "O")
 have b3:(d==32)=false:=by simp;(walk_at "O")
 rw[b0,b1,b2,b3]
 simp[a1,a2,a3]
 rfl
theorem chr1_eq {d c:Nat}{x:Str}(hx:x=(⟨#[c]⟩:Str)):(chr1 d==x)=(d==c):=by
 subst hx
 unfold chr1
 by_cases h:d=c
 ·subst h;simp
 ·have:(d==c)=false:=by simpa using h
  rw[this,beq_eq_false_iff_ne]
  intro e
  injection e with e
  simp at e
  exact h e
theorem app1 (a:List Nat)(d:Nat):(⟨a.toArray⟩:Str)++(⟨#[d]⟩:Str)=⟨(a++[d]).toArray⟩:=by
 show(⟨a.toArray++#[d]⟩:Str)=_
 simp
theorem app1c (a:List Nat)(d:Nat):(⟨a.toArray⟩:Str)++chr1 d=⟨(a++[d]).toArray⟩:=app1 a d
theorem app0 (a:List Nat):(⟨a.toArray⟩:Str)++(⟨#[]⟩:Str)=⟨a.toArray⟩:=by
 show(⟨a.toArray++#[]⟩:Str)=_
 simp
theorem add_fits {a:List Nat}{y:Str}(h:a.length<=20000)(hy:y.length<=1):(⟨a.toArray⟩:Str).length+y.length<=sizeLine:=by
 have:(⟨a.toArray⟩:Str).length=a.length:=by show a.toArray.size=_;simp
 rw[this,sizeLine_eq]
 (walk_at "O")
noncomputable def NextR (w:World)(q:Lex)(T:Int)(pn:Nat)(q' I:Addr)(t:Tok)(news:List (Addr×Obj)):List Nat->Option Value->List (Addr×Obj)->Prop
 | [],r,n=>∃tl' sn',r=none/\n=lexLed w q (T-(([]:List Nat).count 10:Int)) tl' [] pn [] sn'++(I,itE)::(q',methodObj (.ref 108) (.ref q.X))::news
 |c::r',r,n=>∃tl' ss' sn' u,r=some (.str (chr1 c) u)/\StrsAre ss' (chrs r')/\n=lexLed w q (T-(r'.count 10:Int)) tl' [] pn ss' sn'++(I,itO q' t)::(q',methodObj (.ref 108) (.ref q.X))::news
section
variable (w:World)(p:Program)(loose:List Str)(mean:ExcName->Option Value)(mg mb:Str->Option Value)
theorem next_lex (news:List (Addr×Obj))(q:Lex)(T:Int)(tl:Tok)(pn:Nat)(ss:List Value)(sn:Nat)(cs:List Nat)(q' I:Addr)(t:Tok)(hss:StrsAre ss (chrs cs))(hlen:cs.length<=10000)(hT:(cs.count 10:Int)<=T/\T<=100000)
  (ok:LexOk q ((I,itO q' t)::(q',methodObj (.ref 108) (.ref q.X))::news)) (hI:∀p∈news,p.1≠I) (l1:q.PB<q') (l2:q'<I)
  {dp un:Nat} {gd:Option (List Code)} {cn:Str} {sc:Scope} {a:Addr} {ccd:Value} {cl:List (Str×Addr)} {outer:List Env} {A₀:Around} {base h₀:Heap} {L:Addr} {m:Str->Option Value} {s:Shared} {Q:Option Value->Shared->Prop} {E:Value->Shared->Prop}
  (B:Below A₀ base outer h₀) (F:Fr h₀ L s.heap m) (X:(K w.params).In h₀) (N:News h₀ L s.heap (lexLed w q (T-(cs.count 10:Int)) tl [] pn ss sn++(I,itO q' t)::(q',methodObj (.ref 108) (.ref q.X))::news)) (Tp:Top p loose mean mg mb h₀) (hk:sc.kind=.function)
  (pre:CodeHd base 213 209) (hd:dp+14<recursionLimit) (hu:un+50<cLine)
  (hret:∀r news' h' tk',NextR w q T pn q' I t news cs r news'->Fr h₀ L h' m->News h₀ L h' news'->Q r { s with heap:=h',toks:=tk' }):
  wpAny (model Pm w) (ktrTop dp un gd cn sc L a ccd cl outer) (pyNext (.ref I)) Q E s:=by
 have hlen':ss.length<=100000:=by
  have:=StrsAre.length hss
  rw[this];unfold chrs;rw[List.length_map];(walk_at "O")
 have mI:(I,itO q' t)∈lexLed w q (T-(cs.count 10:Int)) tl [] pn ss sn++(I,itO q' t)::(q',methodObj (.ref 108) (.ref q.X))::news:=List.mem_append_right _ (.head _)
 have mq:(q',methodObj (.ref 108) (.ref q.X))∈lexLed w q (T-(cs.count 10:Int)) tl [] pn ss sn++(I,itO q' t)::(q',methodObj (.ref 108) (.ref q.X))::news:=List.mem_append_right _ (.tail _ (.head _))
 have hf:s.heap.get? 108=some (o108 w.params):=(X.keeps F.keep) _ _ (by rfl)
 refine next_live (A:=ktrTop dp un gd cn sc L a ccd cl outer) rfl (N _ mI).1 (N _ mq).1 hf rfl ?_
 refine codeAny_mono (read_charC w p loose mean mg mb _ q (T-(cs.count 10:Int)) tl [] pn ss sn (chrs cs) hss hlen' (by(walk_at "O")) ok dp (un+1) gd cn sc a ccd cl outer A₀ base h₀ L m s (fun _ _=>False) B F X N Tp hk pre (by(walk_at "O")) (by(walk_at "O"))
  (Q:=fun v s'=>∃h' tk' tl' sn' u,s'={ s with heap:=h',toks:=tk' }/\v=.str ((chrs cs).headD Str.empty) u/\Fr h₀ L h' m/\News h₀ L h' (lexLed w q (if (chrs cs).headD Str.empty=ofString "\n" then T-(cs.count 10:Int)+1 else T-(cs.count 10:Int)) tl' [] pn ss.tail sn'++(I,itO q' t)::(q',methodObj (.ref 108) (.ref q.X))::news)) ?_) ?_
 ·first|refine kE3nv ?_|refine kE3vn ?_
  intro tl' sn' u h' tk' F' N'
  exact Uc.ei5 _ _ _ _ _ ⟨rfl,rfl,F',N'⟩
 ·intro r s' z
  cases r with
  |error e=>exact z.elim
  |ok f=>
   cases f with
   |ret v=>
   (refine Uc.ex5 z fun h' tk' tl' sn' u=>Uc.an4 fun e1q e2q F' N'=>?_;clear z;subst e1q;subst e2q)
   have mI':(I,itO q' t)∈lexLed w q (if (chrs cs).headD Str.empty=ofString "\n" then T-(cs.count 10:Int)+1 else T-(cs.count 10:Int)) tl' [] pn ss.tail sn'++(I,itO q' t)::(q',methodObj (.ref 108) (.ref q.X))::news:=List.mem_append_right _ (.head _)
   have mq':(q',methodObj (.ref 108) (.ref q.X))∈lexLed w q (if (chrs cs).headD Str.empty=ofString "\n" then T-(cs.count 10:Int)+1 else T-(cs.count 10:Int)) tl' [] pn ss.tail sn'++(I,itO q' t)::(q',methodObj (.ref 108) (.ref q.X))::news:=List.mem_append_right _ (.tail _ (.head _))
   refine⟨_,u,rfl,(N' _ mI').1,(N' _ mq').1,(X.keeps F'.keep) _ _ (by rfl),?_,?_⟩
   ·intro hne
    cases cs with
    |nil=>exact absurd rfl hne
    |cons c r=>
     cases hss with
     |cons y ty hr=>
      refine hret _ _ _ _ ⟨tl',_,sn',u,rfl,hr,rfl⟩ F' ?_
      have e:=count_ten T c r
      rw[show(chrs (c::r)).headD Str.empty=chr1 c from rfl,e] at N'
      exact N'
   ·intro he h'' hk'' hI''
    cases cs with
    |cons c r=>
     exfalso
     have:(chr1 c).cps.size=(ofString "").cps.size:=congrArg (fun x:Str=>x.cps.size) he
     exact absurd (show(1:Nat)=0 from this) (by decide)
    |nil=>
     cases hss
     have e:(if (chrs []).headD Str.empty=ofString "\n" then T-(([]:List Nat).count 10:Int)+1 else T-(([]:List Nat).count 10:Int))=T-(([]:List Nat).count 10:Int):=if_neg (by decide)
     rw[e] at N'
     have nI:=N' _ mI'
     have o1:=ltN ok.o1
     have o2:=ltN ok.o2
     have o3:=ltN ok.o3
     have o4:=ltN ok.o4
     have o5:=ltN ok.o5
     have o6:=ltN ok.o6
     have o7:=ltN ok.o7
     have o8:=ltN ok.o8
     have l1:=ltN l1
     have l2:=ltN l2
     have F'':Fr h₀ L h'' m:=by
      (refine Uc.ex3 F'.ns fun oL a1 a2=>Uc.an2 fun hoL a3=>?_)
      refine⟨⟨oL,a1,a2,hk'' _ _ nI.2.1.symm hoL,a3⟩,fun b o e=>hk'' _ _ (fun z=>?_) (F'.keep b o e),F'.above⟩
      rw[z] at e
      exact absurd (nI.2.2.symm.trans e) (by simp)
     have ol:=ok.n1
     have NN:∀p∈lexLed w q (T-(([]:List Nat).count 10:Int)) tl' [] pn [] sn',p.1≠I:=by
      have e1:@LT.lt Nat _ q.CC I:=by(walk_at "O")
      have e2:@LT.lt Nat _ q.SG I:=by(walk_at "O")
      have e3:@LT.lt Nat _ q.SF I:=by(walk_at "O")
      have e4:@LT.lt Nat _ q.RC I:=by(walk_at "O")
      have e5:@LT.lt Nat _ q.RF I:=by(walk_at "O")
      have e6:@LT.lt Nat _ q.SD I:=by(walk_at "O")
      have e7:@LT.lt Nat _ q.D I:=by(walk_at "O")
      have e8:@LT.lt Nat _ q.X I:=by(walk_at "O")
      have e9:@LT.lt Nat _ q.PB I:=by(walk_at "O")
      simp only[lexLed,List.forall_mem_cons]
      exact⟨Nat.ne_of_lt e8,Nat.ne_of_lt e7,Nat.ne_of_lt e9,Nat.ne_of_lt e3,Nat.ne_of_lt e6,Nat.ne_of_lt e5,Nat.ne_of_lt e4,Nat.ne_of_lt e1,Nat.ne_of_lt e2,fun _ h=>nomatch h⟩
     refine hret _ _ _ _ ⟨tl',sn',rfl,rfl⟩ F'' (fun p hp=>?_)
     rcases List.mem_append.mp hp with hp|hp
     ·have z:=N' p (List.mem_append_left _ hp)
      exact⟨hk'' _ _ (NN p hp) z.1,z.2⟩
     ·rcases List.mem_cons.mp hp with rfl|hp
      ·exact⟨hI'',nI.2⟩
      ·have z:=N' p (List.mem_append_right _ (.tail _ hp))
       refine⟨hk'' _ _ ?_ z.1,z.2⟩
       rcases List.mem_cons.mp hp with rfl|hp
       ·exact Nat.ne_of_lt l2
       ·exact hI p hp
   |_=>exact z.elim
theorem read_nil (news:List (Addr×Obj))(q:Lex)(T:Int)(tl:Tok)(ps:List Value)(pn:Nat)(ss:List Value)(sn:Nat)(hss:StrsAre ss (chrs []))(hT:0<=T/\T<=100000)(ok:LexOk q news):
  Con w p loose mean mg mb 108 12 40 [.ref q.X] (lexLed w q (T-(([]:List Nat).count 10:Int)) tl ps pn ss sn++news) (fun h=>CodeHd h 213 209) (fun v n=>∃tl' sn' t,n=lexLed w q (T-(([]:List Nat).count 10:Int)) tl' ps pn [] sn'++news/\v=.str ⟨#[]⟩ t):=by
 intro dp un gd cn sc a ccd cl outer A₀ base h₀ L m s Q E a1 a2 a3 a4 a5 a6 a7 a8 a9 a10
 cases hss
 refine(read_charC w p loose mean mg mb news q (T-(([]:List Nat).count 10:Int)) tl ps pn [] sn [] .nil (Nat.zero_le _) (by simp only[List.count_nil];(walk_at "O")) ok).con dp un gd cn sc a ccd cl outer A₀ base h₀ L m s Q E a1 a2 a3 a4 a5 a6 a7 a8 a9 ?_
 first|refine kE3nv ?_|refine kE3vn ?_
 intro tl' sn' t h' tk' F N
 refine a10 _ _ _ _ ⟨tl',sn',t,rfl,rfl⟩ F ?_
 rw[if_neg (by decide)] at N
 exact N
theorem read_cons (news:List (Addr×Obj))(q:Lex)(T:Int)(tl:Tok)(ps:List Value)(pn:Nat)(ss:List Value)(sn:Nat)(c:Nat)(r:List Nat)(hss:StrsAre ss (chrs (c::r)))(hlen:(c::r).length<=10000)(hT:((c::r).count 10:Int)<=T/\T<=100000)(ok:LexOk q news):
  Con w p loose mean mg mb 108 12 40 [.ref q.X] (lexLed w q (T-((c::r).count 10:Int)) tl ps pn ss sn++news) (fun h=>CodeHd h 213 209) (fun v n=>∃tl' ss' sn' t,StrsAre ss' (chrs r)/\n=lexLed w q (T-(r.count 10:Int)) tl' ps pn ss' sn'++news/\v=.str ⟨#[c]⟩ t):=by
 intro dp un gd cn sc a ccd cl outer A₀ base h₀ L m s Q E a1 a2 a3 a4 a5 a6 a7 a8 a9 a10
 have hl:=StrsAre.length hss
 refine(read_charC w p loose mean mg mb news q (T-((c::r).count 10:Int)) tl ps pn ss sn (chrs (c::r)) hss (by rw[hl];unfold chrs;rw[List.length_map];(walk_at "O")) (by(walk_at "O")) ok).con dp un gd cn sc a ccd cl outer A₀ base h₀ L m s Q E a1 a2 a3 a4 a5 a6 a7 a8 a9 ?_
 first|refine kE3nv ?_|refine kE3vn ?_
 intro tl' sn' t h' tk' F N
 cases hss with
 |cons y ty hr=>
  refine a10 _ _ _ _ ⟨tl',_,sn',t,hr,rfl,rfl⟩ F ?_
  have e:=count_ten T c r
  rw[show(chrs (c::r)).headD Str.empty=chr1 c from rfl,e] at N
  exact N
theorem read_any (news:List (Addr×Obj))(q:Lex)(T:Int)(tl:Tok)(ps:List Value)(pn:Nat)(ss:List Value)(sn:Nat)(r:List Nat)(hss:StrsAre ss (chrs r))(hlen:r.length<=10000)(hT:(r.count 10:Int)<=T/\T<=100000)(ok:LexOk q news):
  Con w p loose mean mg mb 108 12 40 [.ref q.X] (lexLed w q (T-(r.count 10:Int)) tl ps pn ss sn++news) (fun h=>CodeHd h 213 209) (fun v n=>∃tl' ss' sn' t,StrsAre ss' (chrs r.tail)/\n=lexLed w q (T-(r.tail.count 10:Int)) tl' ps pn ss' sn'++news/\v=.str ⟨(r.take 1).toArray⟩ t):=by
 cases r with
 |nil=>
  intro dp un gd cn sc a ccd cl outer A₀ base h₀ L m s Q E a1 a2 a3 a4 a5 a6 a7 a8 a9 a10
  refine read_nil w p loose mean mg mb news q T tl ps pn ss sn hss hT ok dp un gd cn sc a ccd cl outer A₀ base h₀ L m s Q E a1 a2 a3 a4 a5 a6 a7 a8 a9 ?_
  first|refine kE3nv ?_|refine kE3vn ?_
  intro tl' sn' t h' tk' F N
  exact a10 _ _ _ _ ⟨tl',[],sn',t,.nil,rfl,rfl⟩ F N
 |cons c r=>exact read_cons w p loose mean mg mb news q T tl ps pn ss sn c r hss hlen hT ok
theorem take1_le (l:List Nat):(⟨(l.take 1).toArray⟩:Str).length<=1:=by
 cases l with
 |nil=>exact Nat.zero_le _
 |cons c l=>exact Nat.le_refl 1
theorem appT (a l:List Nat):(⟨a.toArray⟩:Str)++(⟨(l.take 1).toArray⟩:Str)=⟨(a++l.take 1).toArray⟩:=by
 cases l with
 |nil=>rw[List.take_nil,List.append_nil];exact app0 a
 |cons c l=>exact app1 a c
theorem len_ta (r a:List Nat):r.tail.length+(a++r.take 1).length<=r.length+a.length:=by
 cases r with
 |nil=>rw[List.take_nil,List.append_nil];exact Nat.le_refl _
 |cons c r=>rw[List.length_append];exact Nat.le_of_eq (show r.length+(a.length+1)=r.length+1+a.length by omega)
theorem len_tail (r:List Nat):r.tail.length<=r.length:=by
 cases r with
 |nil=>exact Nat.le_refl _
 |cons c r=>exact Nat.le_succ _
theorem cnt_tail (r:List Nat):r.tail.count 10<=r.count 10:=by
 cases r with
 |nil=>exact Nat.le_refl _
 |cons c r=>exact List.count_le_count_cons
theorem q_ea (r a:List Nat):qGo (92::r) a=qGo r.tail (a++r.take 1):=by
 cases r with
 |nil=>rw[List.take_nil,List.append_nil];rfl
 |cons c r=>exact q_e1 _ _ _
theorem b_ea (r a:List Nat):bGo (92::r) a=bGo r.tail (a++r.take 1):=by
 cases r with
 |nil=>rw[List.take_nil,List.append_nil];rfl
 |cons c r=>exact b_e1 _ _ _
theorem tok_ea (r:List Nat):tokGo (92::r)=bGo r.tail (r.take 1):=by
 cases r with
 |nil=>rfl
 |cons c r=>exact tok_e1 _ _
end
end Uc
end
section
namespace Uc
theorem emp_is:ofString ""=(⟨#[]⟩:Str):=by rfl
set_option genInjectivity false in
set_option genSizeOf false in
structure TS where
 rest:List Nat
 acc:List Nat
 o:Obj
 ss:List Value
 sn:Nat
 tl:Tok
 tt:Tok
theorem nil_app (l:List Nat):(⟨([]:List Nat).toArray⟩:Str)++⟨l.toArray⟩=⟨l.toArray⟩:=by
 show(⟨([]:List Nat).toArray++l.toArray⟩:Str)=_
 simp
theorem nil_app2 (l:List Nat):ofString ""++(⟨l.toArray⟩:Str)=⟨l.toArray⟩:=by
 rw[show ofString ""=(⟨([]:List Nat).toArray⟩:Str) from by rfl]
 exact nil_app l
theorem fpTS {P:TS->Prop}(h:∀a b c d e f g,P ⟨a,b,c,d,e,f,g⟩):∀c,P c:=fun c=>h c.rest c.acc c.o c.ss c.sn c.tl c.tt
noncomputable def tsLed (w:World)(q:Lex)(T:Int)(pn:Nat)(q' I:Addr)(news:List (Addr×Obj))(c:TS):List (Addr×Obj):=lexLed w q (T-(c.rest.count 10:Int)) c.tl [] pn c.ss c.sn++(I,c.o)::(q',methodObj (.ref 108) (.ref q.X))::news
noncomputable def tsNms (q:Lex)(I:Addr)(c:TS):Nms:=[(ofString "token",.str ⟨c.acc.toArray⟩ c.tt),(ofString "fiter",.ref I),(ofString "self",.ref q.X)]
noncomputable def tsLive (T:Int)(q':Addr)(t:Tok)(c:TS):Prop:=c.o=itO q' t/\StrsAre c.ss (chrs c.rest)/\c.rest.length+c.acc.length<=10000/\(c.rest.count 10:Int)<=T
noncomputable def tsDead (c:TS):Prop:=c.o=itE/\c.rest=[]/\c.ss=[]
theorem perm_ab {α:Type}{a b:α}{l n:List α}:∀p∈l++a::b::n,p∈a::b::(l++n):=fun p hp=>by
 rcases List.mem_append.mp hp with hp|hp
 ·exact .tail _ (.tail _ (List.mem_append_left _ hp))
 ·rcases List.mem_cons.mp hp with rfl|hp
  ·exact .head _
  ·rcases List.mem_cons.mp hp with rfl|hp
   ·exact .tail _ (.head _)
   ·exact .tail _ (.tail _ (List.mem_append_right _ hp))
theorem perm_no {α:Type}{a b:α}{l n:List α}:∀p∈l++n,p∈l++a::b::n:=fun p hp=>by
 rcases List.mem_append.mp hp with hp|hp
 ·exact List.mem_append_left _ hp
 ·exact List.mem_append_right _ (.tail _ (.tail _ hp))
theorem ts_turn {w:World}{p:Program}{loose:List Str}{mean:ExcName->Option Value}{mg mb:Str->Option Value}{news:List (Addr×Obj)}{q:Lex}{T:Int}{pn:Nat}{q' I:Addr}{t:Tok}(hT:T<=100000)
  (ok:LexOk q ((I,itO q' t)::(q',methodObj (.ref 108) (.ref q.X))::news)) (hI:∀p∈news,p.1≠I) (l1:q.PB<q') (l2:q'<I)
  {dp un:Nat} {gd:Option (List Code)} {cn:Str} {sc:Scope} {a:Addr} {ccd:Value} {cl:List (Str×Addr)} {outer:List Env} {A₀:Around} {base h₀ h:Heap} {L:Addr} {u:Str->Option Value} {s:Shared} {tk:Tok} {E:Value->Shared->Prop}
  (B:Below A₀ base outer h₀) (X:(K w.params).In h₀) (Tp:Top p loose mean mg mb h₀) (hk:sc.kind=.function)
  (pre:CodeHd base 213 209) (hd:dp+14<recursionLimit) (hu:un+50<cLine) (Y:Value->TS->Prop) (Z:TS->Prop) (c:TS)
  (F:Fr h₀ L h (fm u (tsNms q I c))) (N:News h₀ L h (tsLed w q T pn q' I news c)) (hc:tsLive T q' t c)
  (hZ:c.rest=[]->∀sn tl,Z ⟨[],c.acc,itE,[],sn,tl,c.tt⟩)
  (hY:∀d r,c.rest=d::r->∀ss sn tl v,tsLive T q' t ⟨r,c.acc,itO q' t,ss,sn,tl,c.tt⟩->r.length+c.acc.length+1<=10000->Y (.str (chr1 d) v) ⟨r,c.acc,itO q' t,ss,sn,tl,c.tt⟩):
  wpAny (model Pm w) (ktrTop dp un gd cn sc L a ccd cl outer) (pyNext (.ref I)) (fun r s₂=>match r with
    |none=>Got h₀ L (tsLed w q T pn q' I news) (tsNms q I) Z s s₂
    |some v=>Got h₀ L (tsLed w q T pn q' I news) (tsNms q I) (fun c'=>Y v c'/\c'.rest.length<c.rest.length) s s₂) E { s with heap:=h,toks:=tk }:=by
 obtain⟨rest,acc,o,ss,sn,tl,tt⟩:=c
 (refine Uc.ah4 hc fun h1 h2 h3 h4=>?_;clear hc)
 dsimp only at h1 h2 h3 h4 hZ hY F
 subst h1
 refine next_lex w p loose mean mg mb news q T tl pn ss sn rest q' I t h2 (by(walk_at "O")) ⟨h4,hT⟩ ok hI l1 l2 (s:=⟨_,_,_,_,_⟩) B F X N Tp hk pre hd hu ?_
 intro r news' h' tk' hR F' N'
 cases rest with
 |nil=>
  (refine Uc.ex2 hR fun tl' sn'=>Uc.an2 fun e1q e2q=>?_;clear hR;subst e1q;subst e2q)
  exact⟨⟨[],acc,itE,[],sn',tl',tt⟩,_,h',tk',rfl,F',N',⟨rfl,rfl,rfl,trivial⟩,hZ rfl _ _⟩
 |cons d r=>
  (refine Uc.ex4 hR fun tl' ss' sn' v=>Uc.an3 fun e1q hs e2q=>?_;clear hR;subst e1q;subst e2q)
  have hL:tsLive T q' t ⟨r,acc,itO q' t,ss',sn',tl',tt⟩:=⟨rfl,hs,by rw[List.length_cons] at h3;dsimp only;(walk_at "O"),by
   have:r.count 10<=(d::r).count 10:=List.count_le_count_cons
   (try dsimp only)
   (walk_at "O")⟩
  exact⟨⟨r,acc,itO q' t,ss',sn',tl',tt⟩,_,h',tk',rfl,F',N',⟨rfl,rfl,rfl,trivial⟩,hY d r rfl _ _ _ _ hL (by rw[List.length_cons] at h3;(walk_at "O")),Nat.lt_succ_self _⟩
section
variable (w:World)(p:Program)(loose:List Str)(mean:ExcName->Option Value)(mg mb:Str->Option Value)
theorem get_new (news:List (Addr×Obj))(q:Lex)(T:Int)(tl:Tok)(pn:Nat)(ss:List Value)(sn:Nat)(cs:List Nat)(hss:StrsAre ss (chrs cs))(hlen:cs.length<=10000)(hT:(cs.count 10:Int)<=T/\T<=100000)(ok:LexOk q news):
  Con w p loose mean mg mb 115 20 80 [.ref q.X] (lexLed w q (T-cs.count 10) tl [] pn ss sn++news) (fun h=>CodeHd h 213 209)
   (fun r n=>∃tl' pn' ss' sn' t,n=lexLed w q (T-(tokGo cs).2.count 10) tl' [] pn' ss' sn'++news/\StrsAre ss' (chrs (tokGo cs).2)/\r=.str ⟨(tokGo cs).1.toArray⟩ t):=by
 have o1:=ltN ok.o1
 have o2:=ltN ok.o2
 have o3:=ltN ok.o3
 have o4:=ltN ok.o4
 have o5:=ltN ok.o5
 have o6:=ltN ok.o6
 have o7:=ltN ok.o7
 have o8:=ltN ok.o8
 have n1:=ok.n1
 have n2:=ok.n2
 have n3:=ok.n3
 dsimp only[Con,Pm,lexLed,List.cons_append,List.nil_append]
 k_fill
 (set_option tactic.hygienic true in intros)
 rename_i hret
 refine wpAny_call ?_
 k_dflt cell_enter
 (refine Uc.letAE ?_;intro AA EE)
 repeat' (first|(walk_at "P")|(walk_at "V";first|((with_reducible show ite _ _ _);first|(rw[if_pos (by first|(simp only[decide_eq_true_eq,bne_iff_ne,ne_eq];omega)|(simp only[decide_eq_true_eq];omega))])|(rw[if_neg (by first|(simp only[decide_eq_true_eq,bne_iff_ne,ne_eq];omega)|(simp only[decide_eq_true_eq];omega))]))|(walk_at "T")))
 refine iter_make2 ‹_› ‹_› ‹_› ?_
 intro q' t h' I F' N' lq lI
 repeat' (first|(walk_at "P")|(walk_at "V";(fail_if_success (with_reducible show wpAny _ _ (execs (PySem.Stmt.For _ _ _ _ ⟨81,_,_,_⟩::_) _) _ _ _));walk_at "T"))
 (try dsimp only)
 rename Fr _ _ _ _=>F9
 rename News _ _ _ _=>N8
 have N9:=fun tt:Tok=>News.sub (a:=(I,itO q' t)::(q',methodObj (.ref 108) (.ref q.X))::(lexLed w q (T-(cs.count 10:Int)) tl [] pn ss sn++news)) (b:=tsLed w q T pn q' I news ⟨cs,[],itO q' t,ss,sn,tl,tt⟩) N8 perm_ab
 clear N8
 walk_at "H"
 refine execs_join F9 (tsLed w q T pn q' I news) (tsNms q I) (fun c=>tsDead c/\tokGo cs=(c.acc,[])) ?g1 ?g2
 case g2=>
  refine fpTS fun rest acc o ss sn tl tt=>?_
  intro u h tk hR10z F N
  have h4:=hR10z.2
  (refine Uc.ah3 hR10z.1 fun h1 h2 h3=>?_)
  clear hR10z
  dsimp only at h1 h2 h3 h4 F N ⊢
  subst h1 h2 h3
  walk_at "X"
  rw[h4] at hret
  rename News _ _ _ (tsLed _ _ _ _ _ _ _ _)=>N7
  have N6:=News.sub (b:=lexLed w q (T-(([]:List Nat).count 10:Int)) tl [] pn [] sn++news) N7 (perm_no (l:=lexLed w q (T-(([]:List Nat).count 10:Int)) tl [] pn [] sn) (n:=news))
  exact hret _ _ _ _ (Uc.ei5 tl pn ([]) sn tt ⟨rfl,.nil,rfl⟩) ‹_› N6
 case g1=>
  walk_at "H"
  refine wpAny_For ?_
  walk_at "X"
  have lI2:=ltN lI
  have lq1:q.PB<q':=lq.2.2.1
  have lq2:AllLt q' news:=lq.2.2.2.2.2.2.2.2.2
  have hnI:∀p∈news,p.1≠I:=fun p hp=>Nat.ne_of_lt (Nat.lt_trans (allLt_all lq2 p hp) lI)
  have ok':LexOk q ((I,itO q' t)::(q',methodObj (.ref 108) (.ref q.X))::news):=by
   have o1:=ltN ok.o1
   have o2:=ltN ok.o2
   have o3:=ltN ok.o3
   have o4:=ltN ok.o4
   have o5:=ltN ok.o5
   have o6:=ltN ok.o6
   have o7:=ltN ok.o7
   have o8:=ltN ok.o8
   have lq1:=ltN lq1
   exact { ok with
    n1:=List.forall_mem_cons.mpr ⟨Nat.ne_of_gt (show @LT.lt Nat _ q.D I by(walk_at "O")),List.forall_mem_cons.mpr ⟨Nat.ne_of_gt (show @LT.lt Nat _ q.D q' by(walk_at "O")),ok.n1⟩⟩
    n2:=List.forall_mem_cons.mpr ⟨Nat.ne_of_gt (show @LT.lt Nat _ q.PB I by(walk_at "O")),List.forall_mem_cons.mpr ⟨Nat.ne_of_gt (show @LT.lt Nat _ q.PB q' by(walk_at "O")),ok.n2⟩⟩
    n3:=List.forall_mem_cons.mpr ⟨Nat.ne_of_gt (show @LT.lt Nat _ q.SG I by(walk_at "O")),List.forall_mem_cons.mpr ⟨Nat.ne_of_gt (show @LT.lt Nat _ q.SG q' by(walk_at "O")),ok.n3⟩⟩ }
  refine ci_self ⟨_,(N9 0 _ (List.mem_append_right _ (.head _))).1,rfl⟩ ?_
  refine for_own I (tsLed w q T pn q' I news) (tsNms q I) (fun c=>(tsLive T q' t c/\c.acc=[]/\tokGo cs=tokGo c.rest)∨(tsDead c/\tokGo cs=(c.acc,[])))
   (fun v c=>∃d u,v=.str (chr1 d) u/\tsLive T q' t c/\c.rest.length+c.acc.length+1<=10000/\c.acc=[]/\tokGo cs=tokGo (d::c.rest)) (fun c=>tsDead c/\tokGo cs=(c.acc,[])) (fun c=>c.rest.length) ⟨cs,[],itO q' t,ss,sn,tl,_⟩ rfl rfl F9 (N9 _) ⟨congrArg some (congrArg (Value.str · _) emp_is),rfl,rfl,trivial⟩ ?hp ?turn ?body ?done (by passes_own)
  case hp=>exact .inl ⟨⟨rfl,hss,by show cs.length+0<=_;(walk_at "O"),hT.1⟩,rfl,rfl⟩
  case done=>
   intro c u h tk hZ F N
   walk_at "H";exact GotF.mk c F N (fun _ h=>h) ⟨rfl,rfl,rfl,trivial⟩ hZ
  case turn=>
   rintro c u h tk (⟨hc,ha,ht⟩|⟨hc,ht⟩) F N
   ·refine ts_turn hT.2 ok' hnI lq1 lI ‹_› ‹_› ‹_› (by rfl) ‹_› (by ktr_room) (by ktr_units) _ _ c F N hc ?_ ?_
    ·intro e sn tl
     rw[e] at ht
     exact⟨⟨rfl,rfl,rfl⟩,by rw[ha];exact ht⟩
    ·intro d r e ss sn tl v hl hb
     rw[e] at ht
     exact⟨d,v,rfl,hl,hb,ha,ht⟩
   ·obtain⟨rest,acc,o,ss,sn,tl,tt⟩:=c
    (refine Uc.ah3 hc fun h1 h2 h3=>?_;clear hc)
    dsimp only at h1 h2 h3 ht F N
    subst h1 h2 h3
    refine next_dead rfl (N _ (List.mem_append_right _ (.head _))).1 fun h' hk'=>?_
    exact Uc.ei4 _ _ h' _ ⟨rfl,F.keeps hk',fun p hp=>⟨hk' _ _ (N p hp).1,(N p hp).2⟩,⟨rfl,rfl,rfl,trivial⟩,⟨rfl,rfl,rfl⟩,ht⟩
  case body=>
   refine fpTS fun rest acc o ss sn tl tt=>?_
   intro v u h tk hR11z F N
   (refine Uc.ex2 hR11z fun d u=>Uc.an5 fun e1q w3q hb h5 h6=>?_;clear hR11z;subst e1q);(refine Uc.ah4 w3q fun h1 h2 h3 h4=>?_;clear w3q)
   dsimp only at h1 h2 h3 h4 hb h5 h6 F N ⊢
   subst h1 h5
   dsimp only[tsLed,tsNms,lexLed,List.cons_append,List.nil_append] at F N
   repeat' (first|(walk_at "P")|(walk_at "V";(fail_if_success (with_reducible show wpAny _ _ (execs (PySem.Stmt.If _ _ _ ⟨92,_,_,_⟩::_) _) _ _ _));walk_at "T"))
   ·rename (_==ofString "\"")=true=>hd
    rw[chr1_eq (c:=34) (by rfl),beq_iff_eq] at hd
    rename News _ _ _ _=>N5
    rename Fr _ _ _ _=>F5
    walk_at "H"
    refine wpAny_For ?_
    walk_at "X"
    refine ci_self ⟨_,(N5 (I,itO q' t) (by k_mem)).1,rfl⟩ ?_
    refine for_own I (tsLed w q T pn q' I news) (tsNms q I) (fun c=>tsLive T q' t c/\tokGo cs=qGo c.rest c.acc)
     (fun v c=>∃d u,v=.str (chr1 d) u/\tsLive T q' t c/\c.rest.length+c.acc.length+1<=10000/\tokGo cs=qGo (d::c.rest) c.acc) (fun c=>tsDead c/\tokGo cs=(c.acc,[])) (fun c=>c.rest.length) ⟨rest,[],itO q' t,ss,sn,tl,_⟩ rfl rfl F5 N5 ⟨rfl,rfl,rfl,trivial⟩ ?hpA ?turnA ?bodyA ?doneA (by passes_own)
    case hpA=>exact⟨⟨rfl,h2,by(try simp only[List.length_append,List.length_cons,List.length_nil]);dsimp only[List.length_nil,List.length_cons] at*;(walk_at "O"),h4⟩,by rw[h6,hd,tok_q]⟩
    case doneA=>
     refine fpTS fun rest acc o ss sn tl tt=>?_
     intro u h tk hR1z F N
     have h4:=hR1z.2
     (refine Uc.ah3 hR1z.1 fun h1 h2 h3=>?_)
     clear hR1z
     dsimp only at h1 h2 h3 h4 F N ⊢
     subst h1 h2 h3
     walk_at "X"
     walk_at "H";exact Got.mk ⟨[],acc,itE,[],sn,tl,tt⟩ ‹_› ‹_› (fun _ h=>h) ⟨rfl,rfl,rfl,trivial⟩ ⟨.inr ⟨⟨rfl,rfl,rfl⟩,h4⟩,Nat.zero_le _⟩
    case turnA=>
     intro c u h tk hR2z F N
     have hc:=hR2z.1
     have ht:=hR2z.2
     clear hR2z
     refine ts_turn hT.2 ok' hnI lq1 lI ‹_› ‹_› ‹_› (by rfl) ‹_› (by ktr_room) (by ktr_units) _ _ c F N hc ?_ ?_
     ·intro e sn tl
      rw[e] at ht
      exact⟨⟨rfl,rfl,rfl⟩,ht⟩
     ·intro d r e ss sn tl v hl hb
      rw[e] at ht
      exact⟨d,v,rfl,hl,hb,ht⟩
    case bodyA=>
     refine fpTS fun rest acc o ss sn tl tt=>?_
     intro v u h tk hR3z F N
     (refine Uc.ex2 hR3z fun d u=>Uc.an4 fun e1q w4q hb h6=>?_;clear hR3z;subst e1q);(refine Uc.ah4 w4q fun h1 h2 h3 h4=>?_;clear w4q)
     dsimp only at h1 h2 h3 h4 hb h6 F N ⊢
     subst h1
     dsimp only[tsLed,tsNms,lexLed,List.cons_append,List.nil_append] at F N
     repeat' (first|(walk_at "P")|(walk_at "V";first|((with_reducible show wpAny _ _ (inplaceOp _ _ _) _ _ _);(dsimp only;(with_reducible show wpAny _ _ (inplaceOp Operator.Add (Value.str _ _) (Value.str _ _)) _ _ _);(refine SB.iadd ?_ (by first|exact Uc.add_fits (by(walk_at "O")) (Uc.take1_le _)|exact Uc.add_fits (by(walk_at "O")) (by rfl)|exact Uc.add_fits (by(walk_at "O")) (Nat.le_refl _)|exact Uc.add_fits (by(walk_at "O")) (Nat.zero_le _)));intro _ _;(first|rw[Uc.appT]|rw[Uc.app1]|rw[Uc.app1c]|rw[Uc.app0])))|(walk_at "T")))
     ·rename (chr1 d==ofString "\"")=true=>hc
      rw[chr1_eq (c:=34) (by rfl),beq_iff_eq] at hc
      rw[hc,q_q] at h6
      (try dsimp only)
      walk_at "H"
      refine GotF.ret ?_
      walk_at "H"
      walk_at "X"
      rename News _ _ _ _=>N7
      have N6:=News.sub (b:=lexLed w q (T-(rest.count 10:Int)) tl [] pn ss sn++news) N7 (perm_no (l:=lexLed w q (T-(rest.count 10:Int)) tl [] pn ss sn) (n:=news))
      rw[h6] at hret
      exact hret _ _ _ _ (Uc.ei5 tl pn ss sn tt ⟨rfl,h2,rfl⟩) ‹_› N6
     ·rename (chr1 d==ofString "\\")=true=>hc
      rw[chr1_eq (c:=92) (by rfl),beq_iff_eq] at hc
      (refine read_any w p loose mean mg mb ((I,itO q' t)::(q',methodObj (.ref 108) (.ref q.X))::news) q T tl [] pn ss sn rest h2 (by(walk_at "O")) ⟨h4,hT.2⟩ ok' _ _ _ _ _ _ _ _ _ _ _ _ _ _ _ _ _ ‹_› ‹_› ‹_› ‹_› ‹_› (by first|assumption|rfl) ?pre (by walk_at "r") (by walk_at "u") ?_);(case pre=>first|exact trivial|assumption)
      first|refine kE4pnv ?_|refine kE4pvn ?_
      intro tl' ss' sn' u' h' tk' hs' F N
      dsimp only[lexLed,List.cons_append,List.nil_append] at N
      repeat' (first|(walk_at "P")|(walk_at "V";first|((with_reducible show wpAny _ _ (inplaceOp _ _ _) _ _ _);(dsimp only;(with_reducible show wpAny _ _ (inplaceOp Operator.Add (Value.str _ _) (Value.str _ _)) _ _ _);(refine SB.iadd ?_ (by first|exact Uc.add_fits (by(walk_at "O")) (Uc.take1_le _)|exact Uc.add_fits (by(walk_at "O")) (by rfl)|exact Uc.add_fits (by(walk_at "O")) (Nat.le_refl _)|exact Uc.add_fits (by(walk_at "O")) (Nat.zero_le _)));intro _ _;(first|rw[Uc.appT]|rw[Uc.app1]|rw[Uc.app1c]|rw[Uc.app0])))|(walk_at "T")))
      have h4':(rest.tail.count 10:Int)<=T:=Int.le_trans (Int.ofNat_le.mpr (cnt_tail rest)) h4
      walk_at "H";exact Got.mk ⟨rest.tail,acc++rest.take 1,itO q' t,ss',sn',tl',_⟩ ‹_› ‹_› (fun _ h=>h) ⟨rfl,rfl,rfl,trivial⟩ ⟨⟨⟨rfl,hs',Nat.le_trans (len_ta rest acc) (by(walk_at "O")),h4'⟩,by rw[h6,hc];exact q_ea _ _⟩,len_tail rest⟩
     ·rename (chr1 d==ofString "\"")=false=>hc
      rename (chr1 d==ofString "\\")=false=>hc2
      rw[chr1_eq (c:=34) (by rfl),beq_eq_false_iff_ne] at hc
      rw[chr1_eq (c:=92) (by rfl),beq_eq_false_iff_ne] at hc2
      rw[q_b hc hc2] at h6
      (try dsimp only)
      walk_at "H";exact Got.mk ⟨rest,acc++[d],itO q' t,ss,sn,tl,_⟩ ‹_› ‹_› (fun _ h=>h) ⟨rfl,rfl,rfl,trivial⟩ ⟨⟨⟨rfl,h2,by simp only[List.length_append,List.length_cons,List.length_nil] at*;(walk_at "O"),h4⟩,h6⟩,Nat.le_refl _⟩
   ·rename (List.isEmpty _)=true=>hw
    rename (chr1 d==ofString "\"")=false=>hc
    rw[ws_occ,Bool.not_eq_true'] at hw
    rw[chr1_eq (c:=34) (by rfl),beq_eq_false_iff_ne] at hc
    (try dsimp only)
    rename Fr _ _ _ _=>F4
    walk_at "H"
    refine execs_join F4 (σ:=TS) (tsLed w q T pn q' I news) (fun c=>[(ofString "ch",.str ⟨c.acc.toArray⟩ c.tt),(ofString "token",.str ⟨([]:List Nat).toArray⟩ tt),(ofString "fiter",.ref I),(ofString "self",.ref q.X)]) (fun c=>tsLive T q' t c/\c.acc.length<=1/\tokGo cs=bGo c.rest c.acc) ?j1 ?j2
    case j1=>
     walk_at "X"
     ·rename (chr1 d==ofString "\\")=true=>hc2
      rw[chr1_eq (c:=92) (by rfl),beq_iff_eq] at hc2
      (refine read_any w p loose mean mg mb ((I,itO q' t)::(q',methodObj (.ref 108) (.ref q.X))::news) q T tl [] pn ss sn rest h2 (by(walk_at "O")) ⟨h4,hT.2⟩ ok' _ _ _ _ _ _ _ _ _ _ _ _ _ _ _ _ _ ‹_› ‹_› ‹_› ‹_› ‹_› (by first|assumption|rfl) ?pre (by walk_at "r") (by walk_at "u") ?_);(case pre=>first|exact trivial|assumption)
      first|refine kE4pnv ?_|refine kE4pvn ?_
      intro tl' ss' sn' u' h' tk' hs' F N
      dsimp only[lexLed,List.cons_append,List.nil_append] at N
      walk_at "X"
      have h4':(rest.tail.count 10:Int)<=T:=Int.le_trans (Int.ofNat_le.mpr (cnt_tail rest)) h4
      walk_at "H";exact GotF.mk ⟨rest.tail,rest.take 1,itO q' t,ss',sn',tl',_⟩ ‹_› ‹_› (fun _ h=>h) ⟨rfl,rfl,rfl,rfl,trivial⟩ ⟨⟨rfl,hs',Nat.le_trans (len_ta rest []) (by dsimp only[List.length_nil] at*;(walk_at "O")),h4'⟩,List.length_take_le 1 rest,by rw[h6,hc2];exact tok_ea _⟩
     ·rename (chr1 d==ofString "\\")=false=>hc2
      rw[chr1_eq (c:=92) (by rfl),beq_eq_false_iff_ne] at hc2
      (try dsimp only)
      walk_at "H";exact GotF.mk ⟨rest,[d],itO q' t,ss,sn,tl,_⟩ ‹_› ‹_› (fun _ h=>h) ⟨rfl,rfl,rfl,rfl,trivial⟩ ⟨⟨rfl,h2,by(try simp only[List.length_append,List.length_cons,List.length_nil]);dsimp only[List.length_nil,List.length_cons] at*;(walk_at "O"),h4⟩,Nat.le_refl _,by rw[h6,tok_b hw hc hc2]⟩
    case j2=>
     clear F4
     clear h2 h3 h4 h6 hw hc
     intro hR4z u2 h tk hRz F N
     obtain⟨rest,acc,o,ss,sn,tl,tu⟩:=hR4z
     (refine Uc.ah3 hRz fun w5q h5 h6=>?_;clear hRz);(refine Uc.ah4 w5q fun h1 h2 h3 h4=>?_;clear w5q)
     dsimp only at h1 h2 h3 h4 h5 h6 F N ⊢
     subst h1
     dsimp only[tsLed,lexLed,List.cons_append,List.nil_append] at F N
     repeat' (first|(walk_at "P")|(walk_at "V";(fail_if_success (with_reducible show wpAny _ _ (execs (PySem.Stmt.For _ _ _ _ ⟨94,_,_,_⟩::_) _) _ _ _));walk_at "T"))
     rename Fr _ _ _ _=>F6
     rw[nil_app2 acc] at F6
     rename News _ _ _ _=>N5
     rename Fr _ _ _ _=>F5
     walk_at "H"
     refine wpAny_For ?_
     walk_at "X"
     refine ci_self ⟨_,(N5 (I,itO q' t) (by k_mem)).1,rfl⟩ ?_
     refine for_own I (tsLed w q T pn q' I news) (tsNms q I) (fun c=>tsLive T q' t c/\tokGo cs=bGo c.rest c.acc)
      (fun v c=>∃d u,v=.str (chr1 d) u/\tsLive T q' t c/\c.rest.length+c.acc.length+1<=10000/\tokGo cs=bGo (d::c.rest) c.acc) (fun c=>tsDead c/\tokGo cs=(c.acc,[])) (fun c=>c.rest.length) ⟨rest,acc,itO q' t,ss,sn,tl,_⟩ rfl rfl F5 N5 ⟨rfl,rfl,rfl,trivial⟩ ?hpB ?turnB ?bodyB ?doneB (by passes_own)
     case hpB=>exact⟨⟨rfl,h2,by(try simp only[List.length_append,List.length_cons,List.length_nil]);dsimp only[List.length_nil,List.length_cons] at*;(walk_at "O"),h4⟩,h6⟩
     case doneB=>
      refine fpTS fun rest acc o ss sn tl tt=>?_
      intro u h tk hR5z F N
      have h4:=hR5z.2
      (refine Uc.ah3 hR5z.1 fun h1 h2 h3=>?_)
      clear hR5z
      dsimp only at h1 h2 h3 h4 F N ⊢
      subst h1 h2 h3
      walk_at "X"
      walk_at "H";exact Got.mk ⟨[],acc,itE,[],sn,tl,tt⟩ ‹_› ‹_› (fun _ h=>h) ⟨rfl,rfl,rfl,trivial⟩ ⟨.inr ⟨⟨rfl,rfl,rfl⟩,h4⟩,Nat.zero_le _⟩
     case turnB=>
      intro c u h tk hR6z F N
      have hc:=hR6z.1
      have ht:=hR6z.2
      clear hR6z
      refine ts_turn hT.2 ok' hnI lq1 lI ‹_› ‹_› ‹_› (by rfl) ‹_› (by ktr_room) (by ktr_units) _ _ c F N hc ?_ ?_
      ·intro e sn tl
       rw[e] at ht
       exact⟨⟨rfl,rfl,rfl⟩,ht⟩
      ·intro d r e ss sn tl v hl hb
       rw[e] at ht
       exact⟨d,v,rfl,hl,hb,ht⟩
     case bodyB=>
      refine fpTS fun rest acc o ss sn tl tt=>?_
      intro v u h tk hR7z F N
      (refine Uc.ex2 hR7z fun d u=>Uc.an4 fun e1q w6q hb h6=>?_;clear hR7z;subst e1q);(refine Uc.ah4 w6q fun h1 h2 h3 h4=>?_;clear w6q)
      dsimp only at h1 h2 h3 h4 hb h6 F N ⊢
      subst h1
      dsimp only[tsLed,tsNms,lexLed,List.cons_append,List.nil_append] at F N
      repeat' (first|(walk_at "P")|(walk_at "V";first|((with_reducible show wpAny _ _ (inplaceOp _ _ _) _ _ _);(dsimp only;(with_reducible show wpAny _ _ (inplaceOp Operator.Add (Value.str _ _) (Value.str _ _)) _ _ _);(refine SB.iadd ?_ (by first|exact Uc.add_fits (by(walk_at "O")) (Uc.take1_le _)|exact Uc.add_fits (by(walk_at "O")) (by rfl)|exact Uc.add_fits (by(walk_at "O")) (Nat.le_refl _)|exact Uc.add_fits (by(walk_at "O")) (Nat.zero_le _)));intro _ _;(first|rw[Uc.appT]|rw[Uc.app1]|rw[Uc.app1c]|rw[Uc.app0])))|(walk_at "T")))
      ·rename (chr1 d==ofString "\\")=true=>hc
       rw[chr1_eq (c:=92) (by rfl),beq_iff_eq] at hc
       (refine read_any w p loose mean mg mb ((I,itO q' t)::(q',methodObj (.ref 108) (.ref q.X))::news) q T tl [] pn ss sn rest h2 (by(walk_at "O")) ⟨h4,hT.2⟩ ok' _ _ _ _ _ _ _ _ _ _ _ _ _ _ _ _ _ ‹_› ‹_› ‹_› ‹_› ‹_› (by first|assumption|rfl) ?pre (by walk_at "r") (by walk_at "u") ?_);(case pre=>first|exact trivial|assumption)
       first|refine kE4pnv ?_|refine kE4pvn ?_
       intro tl' ss' sn' u' h' tk' hs' F N
       dsimp only[lexLed,List.cons_append,List.nil_append] at N
       repeat' (first|(walk_at "P")|(walk_at "V";first|((with_reducible show wpAny _ _ (inplaceOp _ _ _) _ _ _);(dsimp only;(with_reducible show wpAny _ _ (inplaceOp Operator.Add (Value.str _ _) (Value.str _ _)) _ _ _);(refine SB.iadd ?_ (by first|exact Uc.add_fits (by(walk_at "O")) (Uc.take1_le _)|exact Uc.add_fits (by(walk_at "O")) (by rfl)|exact Uc.add_fits (by(walk_at "O")) (Nat.le_refl _)|exact Uc.add_fits (by(walk_at "O")) (Nat.zero_le _)));intro _ _;(first|rw[Uc.appT]|rw[Uc.app1]|rw[Uc.app1c]|rw[Uc.app0])))|(walk_at "T")))
       have h4':(rest.tail.count 10:Int)<=T:=Int.le_trans (Int.ofNat_le.mpr (cnt_tail rest)) h4
       walk_at "H";exact Got.mk ⟨rest.tail,acc++rest.take 1,itO q' t,ss',sn',tl',_⟩ ‹_› ‹_› (fun _ h=>h) ⟨rfl,rfl,rfl,trivial⟩ ⟨⟨⟨rfl,hs',Nat.le_trans (len_ta rest acc) (by(walk_at "O")),h4'⟩,by rw[h6,hc];exact b_ea _ _⟩,len_tail rest⟩
      ·rename (List.isEmpty _)=true=>hc
       rename (chr1 d==ofString "\\")=false=>hc2
       rw[ws_occ,Bool.not_eq_true'] at hc
       rw[chr1_eq (c:=92) (by rfl),beq_eq_false_iff_ne] at hc2
       rw[b_b hc hc2] at h6
       (try dsimp only)
       walk_at "H";exact Got.mk ⟨rest,acc++[d],itO q' t,ss,sn,tl,_⟩ ‹_› ‹_› (fun _ h=>h) ⟨rfl,rfl,rfl,trivial⟩ ⟨⟨⟨rfl,h2,by simp only[List.length_append,List.length_cons,List.length_nil] at*;(walk_at "O"),h4⟩,h6⟩,Nat.le_refl _⟩
      ·rename (List.isEmpty _)=false=>hc
       rw[ws_occ,Bool.not_eq_false'] at hc
       rw[b_w hc] at h6
       (try dsimp only)
       walk_at "H"
       refine GotF.ret ?_
       walk_at "H"
       walk_at "X"
       rename News _ _ _ _=>N7
       have N6:=News.sub (b:=lexLed w q (T-(rest.count 10:Int)) tl [] pn ss sn++news) N7 (perm_no (l:=lexLed w q (T-(rest.count 10:Int)) tl [] pn ss sn) (n:=news))
       rw[h6] at hret
       exact hret _ _ _ _ (Uc.ei5 tl pn ss sn tt ⟨rfl,h2,rfl⟩) ‹_› N6
   ·rename (List.isEmpty _)=false=>hw
    rw[ws_occ,Bool.not_eq_false'] at hw
    (try dsimp only)
    walk_at "H";exact Got.mk ⟨rest,[],itO q' t,ss,sn,tl,tt⟩ ‹_› ‹_› (fun _ h=>h) ⟨rfl,rfl,rfl,trivial⟩ ⟨.inl ⟨⟨rfl,h2,h3,h4⟩,rfl,by rw[h6,tok_ws hw]⟩,Nat.le_refl _⟩
end
end Uc
end
section
namespace Uc
section
variable (w:World)(p:Program)(loose:List Str)(mean:ExcName->Option Value)(mg mb:Str->Option Value)
theorem push_c (news:List (Addr×Obj))(q:Lex)(ln:Int)(tl:Tok)(ps:List Value)(pn:Nat)(ss:List Value)(sn:Nat)(v:Value)(hlen:ps.length<=1000)(ok:LexOk q news):
  Con w p loose mean mg mb 122 12 40 [.ref q.X,v] (lexLed w q ln tl ps pn ss sn++news) (fun h=>CodeHd h 213 209) (fun r n=>∃pn',n=lexLed w q ln tl (ps++[v]) pn' ss sn++news/\r=.none):=by
 have o1:=ltN ok.o1
 have o2:=ltN ok.o2
 have o3:=ltN ok.o3
 have o4:=ltN ok.o4
 have o5:=ltN ok.o5
 have o6:=ltN ok.o6
 have o7:=ltN ok.o7
 have o8:=ltN ok.o8
 have n1:=ok.n1
 have n2:=ok.n2
 have n3:=ok.n3
 dsimp only[Con,Pm,lexLed,List.cons_append,List.nil_append]
 k_fill
 (set_option tactic.hygienic true in intros)
 rename_i hret
 refine wpAny_call ?_
 k_dflt cell_enter
 (refine Uc.letAE ?_;intro AA EE)
 repeat' (first|(walk_at "P")|(walk_at "V";first|((with_reducible show wpAny _ _ (callWith _ (Value.builtin _) _ _ _) _ _ _);dsimp only;first|((with_reducible show wpAny _ _ (callWith _ (Value.builtin "list.append") _ _ _) _ _ _);refine callWith_method1 ?_)|((with_reducible show wpAny _ _ (callWith _ (Value.builtin "str.join") _ _ _) _ _ _);refine callWith_method1 ?_))|(walk_at "T")))
 rename News _ _ _ (_::_::_::_::_::_::_::_::_::news)=>N1
 try simp only[List.push_toArray] at N1
 exact hret _ _ _ _ ⟨_,rfl,rfl⟩ ‹_› N1
theorem get_pushed (news:List (Addr×Obj))(q:Lex)(ln:Int)(tl:Tok)(v:Value)(ps:List Value)(pn:Nat)(ss:List Value)(sn:Nat)(hlen:ps.length<=1000)(ok:LexOk q news):
  Con w p loose mean mg mb 115 16 60 [.ref q.X] (lexLed w q ln tl (v::ps) pn ss sn++news) (fun h=>CodeHd h 213 209) (fun r n=>∃pn',n=lexLed w q ln tl ps pn' ss sn++news/\r=v):=by
 have o1:=ltN ok.o1
 have o2:=ltN ok.o2
 have o3:=ltN ok.o3
 have o4:=ltN ok.o4
 have o5:=ltN ok.o5
 have o6:=ltN ok.o6
 have o7:=ltN ok.o7
 have o8:=ltN ok.o8
 have n1:=ok.n1
 have n2:=ok.n2
 have n3:=ok.n3
 dsimp only[Con,Pm,lexLed,List.cons_append,List.nil_append]
 k_fill
 (set_option tactic.hygienic true in intros)
 rename_i hret
 refine wpAny_call ?_
 k_dflt cell_enter
 (refine Uc.letAE ?_;intro AA EE)
 walk_at "X"
 have hl:(v::ps).length<=1001:=by rw[List.length_cons];(walk_at "O")
 have hsz:(v::ps).length<=sizeLine:=Nat.le_trans hl (by decide)
 rename News _ _ _ _=>N1
 refine wpAny_truthy_list (News.isList N1 (by k_mem)) (by rw[List.size_toArray];(walk_at "O")) ?_
 rw[show(!(v::ps).toArray.isEmpty)=true from rfl]
 walk_at "X"
 refine kl_popAt (its:=(v::ps).toArray) (k:=0) (p:=[]) (q:=ps) ‹_› ‹_› rfl (by rw[List.size_toArray];simp[seqIndex?]) rfl (by k_dflt k_upd) hsz ?_
 intro h' F' N'
 dsimp only[List.nil_append] at N'
 walk_at "X"
 exact hret _ _ _ _ ⟨_,rfl,rfl⟩ ‹_› ‹_›
end
end Uc
end
section
namespace Uc
theorem lpm {α:Type}{a:α}{l L:List α}(ha:a∈L)(h:∀p∈l,p∈L):∀p∈a::l,p∈L:=fun p hp=>(List.mem_cons.mp hp).elim (fun e=>e▸ha) (h p)
theorem lexPerm {α:Type}{a0 a1 a2 a3 a4 a5 a6 a7 a8 a9:α}{t:List α}:∀p∈a1::a2::a0::a6::a3::a4::a5::a9::a8::t,p∈a0::a1::a2::a3::a4::a5::a6::a7::a8::a9::t:=
 lpm (.tail _ (.head _)) (lpm (.tail _ (.tail _ (.head _))) (lpm (.head _) (lpm (.tail _ (.tail _ (.tail _ (.tail _ (.tail _ (.tail _ (.head _))))))) (lpm (.tail _ (.tail _ (.tail _ (.head _)))) (lpm (.tail _ (.tail _ (.tail _ (.tail _ (.head _))))) (lpm (.tail _ (.tail _ (.tail _ (.tail _ (.tail _ (.head _)))))) (lpm (.tail _ (.tail _ (.tail _ (.tail _ (.tail _ (.tail _ (.tail _ (.tail _ (.tail _ (.head _)))))))))) (lpm (.tail _ (.tail _ (.tail _ (.tail _ (.tail _ (.tail _ (.tail _ (.tail _ (.head _))))))))) (fun _ h=>.tail _ (.tail _ (.tail _ (.tail _ (.tail _ (.tail _ (.tail _ (.tail _ (.tail _ (.tail _ h))))))))))))))))))
theorem lex_pack (w:World){h₀ h:Heap}{L PB X D SD RF RC SF c1 SG CC:Addr}{fd:FuncData}{pm ct:Value}{oc oC o1:Obj}{tw k0 k1 k2 k3 kr tl:Tok}{vc:Array Value}{tq:Tok}(hc1:oc.data=.fields vc)(hc2:vc[1]? =some (.str rdQual tq)){tps:Array Value}{news:List (Addr×Obj)}{ss:List Value}{sn pn:Nat}
  (N:News h₀ L h ((PB,listOf #[] pn)::(X,instObj 125 D)::(D,dictOf [{ hash:=PyData.keyHash w.params (ofString "lineno"),key:=Value.str (ofString "lineno") k0,val:=.int 1 tl },
  { hash:=PyData.keyHash w.params (ofString "instream"),key:=Value.str (ofString "instream") k1,val:=.ref SF },
  { hash:=PyData.keyHash w.params (ofString "whitespace"),key:=Value.str (ofString "whitespace") k2,val:=.str (ofString "\n\t\r ") tw },
  { hash:=PyData.keyHash w.params (ofString "pushback"),key:=Value.str (ofString "pushback") k3,val:=.ref PB }] 4)::
  (SD,dictOf [{ hash:=PyData.keyHash w.params (ofString "read"),key:=Value.str (ofString "read") kr,val:=.ref RF }] 1)::(RF,rdO pm CC RC ct)::(RC,oc)::(SF,fnO fd (some SD))::(c1,o1)::(SG,listOf ss.toArray sn)::(CC,oC)::(209,tabObj tps)::news)):
  News h₀ L h (lexLed w ⟨X,D,PB,SF,SD,RF,RC,CC,SG,fd,pm,ct,oc,oC,vc,tq,tw,k0,k1,k2,k3,kr⟩ 1 tl [] pn ss sn++(209,tabObj tps)::news):=News.sub N lexPerm
section
variable (w:World)(p:Program)(loose:List Str)(mean:ExcName->Option Value)(mg mb:Str->Option Value)
theorem lexer_make (news:List (Addr×Obj))(x:Str)(tx:Tok)(hx:x.length<=1000)(hn0:∀q∈news,q.1≠209):
  Con w p loose mean mg mb 214 12 40 [.str x tx] ((209,tabObj #[])::news) (fun h=>CodeHd h 213 209) (fun v n=>∃q tl pn ss sn tps,n=lexLed w q 1 tl [] pn ss sn++(209,tabObj tps)::news/\v=.ref q.X/\StrsAre ss (chrs x.cps.toList)/\LexOk q ((209,tabObj tps)::news)/\AllLt q.CC ((209,tabObj tps)::news)):=by
 dsimp only[Con,Pm]
 k_fill
 (set_option tactic.hygienic true in intros)
 rename_i hret
 refine wpAny_call ?_
 k_dflt (refine' code_defC ?k1 ?k2 ?k3 ?k4 ?k5 ?kA ?kF ?kK ?k6 ?k7 ?k8 ?k9 ?kB ?kD ?_ ?c2 ?c3 ?c4;(case kA=>exact rfl);(case kF=>exact rfl);(case kK=>assumption);(case k1=>k_asm);(case k2=>k_asm);(case k3=>k_asm);(case k4=>k_asm);(case k5=>k_asm);(case k6=>k_is);(case k7=>k_is);(case k8=>ktr_room);(case k9=>exact BindsTo.of_eq rfl);(case kB=>exact rfl);(case kD=>decide+kernel);(case c2=>exact rfl);(case c3=>exact rfl);(case c4=>exact rfl);k_whole;intro g' L' h' tk' cells' FG' F' N' Y' B' X' T' l1;(try k_lt l1);k_cells Y';(try simp only[List.cons_append,List.nil_append] at N');(try dsimp only);(try k_lift B');(try k_fold))
 rename (209<L'/\AllLt L' news)=>l9
 have hNL:AllLt L' news:=l9.2
 have hn1:∀q∈news,q.1≠L'+1:=fun q hq=>Nat.ne_of_lt (Nat.lt_succ_of_lt (allLt_all l9.2 q hq))
 repeat' (first|(walk_at "P")|(walk_at "V";first|(((with_reducible show wpAny _ _ (setAttr (Value.ref _) (ofString "read") _) _ _ _);k_dflt (refine' Uc.fn_setattrU ?F ?N ?U Uc.fn_noread ?_;(case F=>k_asm);(case N=>k_asm);(case U=>k_updF);k_whole);intro h' d' F' N' hAll;(have l1:=allLt_of hAll);clear hAll;(try dsimp only[AllLt] at l1);(try dsimp only at N');(try k_sweep)))|(((with_reducible show wpAny _ _ (call (Value.type _) [Value.str _ _]) _ _ _);(refine Uc.list_strK rfl ‹_› ‹_› (by(walk_at "O")) ?_);intro h' tk' vs' cnt' l' F' N' hAll hStrs;(have l1:=allLt_of hAll);clear hAll;(try dsimp only[AllLt] at l1)))|(walk_at "T")))
 k_dflt (refine' call_cls ?k1 ?k2 ?k3 ?k4 ?k5 ?k6 ?_;(case k1=>k_asm);(case k2=>k_asm);(case k3=>k_asm);(case k4=>k_is);(case k5=>k_is);(case k6=>k_is);k_whole)
 intro x' d' h' F' N' l1 l2
 (try k_lt l1);(try k_lt2 l2);(try k_sweep)
 k_dflt (refine' code_def ?k1 ?k2 ?k3 ?k4 ?k5 ?kA ?kF ?kK ?k6 ?k7 ?k8 ?k9 ?kB ?_ ?c2 ?c3 ?c4 ?c5;(case kA=>exact rfl);(case kF=>exact rfl);(case kK=>exact rfl);(case k1=>k_asm);(case k2=>k_asm);(case k3=>k_asm);(case k4=>k_asm);(case k5=>k_asm);(case k6=>k_is);(case k7=>k_is);(case k8=>ktr_room);(case k9=>exact BindsTo.of_eq rfl);(case c5=>decide);(case kB=>exact locs rfl);(case c2=>exact rfl);(case c3=>exact rfl);(case c4=>exact rfl);k_whole;intro g2' L2' h2' FG2' F2' N2' B2' X2' T2';(try dsimp only);(try k_lift B2');(try k_fold))
 walk_at "X"
 rename News _ _ _ (_::_::_::_::_::_::_::_::_::_::_::news)=>kN
 rename (_=Data.cell (some _))=>c3
 rename (_=Data.fields _)=>c1
 rename (_=some (Value.str (_++ofString "<lambda>") _))=>c2
 rename (_<_/\_<_/\_<_/\_<_/\_<_/\_<_/\_<_/\_<_/\_<_/\209<_/\AllLt _ news)=>lz
 have ltA:AllLt (L'+1) news:=allLt_of fun q hq=>Nat.lt_succ_of_lt (allLt_all (show AllLt L' news from hNL) q hq)
 have lt212:@LT.lt Nat _ 209 (L'+1):=by have:=ltN l9.1;(walk_at "O")
 rename StrsAre _ (signs x)=>hStrs
 have ltL:∀o:Obj,AllLt (L'+1) ((209,o)::news):=fun o=>⟨lt212,ltA⟩
 refine hret _ _ _ _ ?R ‹_› (lex_pack w c1 c2 kN)
 refine Uc.ei6 _ _ _ _ _ _ ⟨rfl,rfl,hStrs,⟨c1,c2,c3,?_,?_,?_,?_,?_,?_,?_,?_,?_,?_,?_⟩,ltL _⟩
 all_goals (try dsimp only)
 all_goals first|(refine ltN ?_;(walk_at "O"))|(refine allLt_ne2 (ltL _) ?_;(try dsimp only);(walk_at "O"))
end
end Uc
end
section
namespace Uc
theorem intsAre_get {vs:List Value}{ns:List Int}(h:IntsAre vs ns):∀k:Nat,(vs[k]? =none/\ns[k]? =none)∨∃n t,vs[k]? =some (.int n t)/\ns[k]? =some n:=by
 induction h with
 |nil=>intro k;exact .inl ⟨rfl,rfl⟩
 |cons n t h ih=>
  intro k
  cases k with
  |zero=>exact .inr ⟨n,t,rfl,rfl⟩
  |succ k=>exact ih k
theorem intsAre_pick {vs:List Value}{ns:List Int}(h:IntsAre vs ns):∀idx:List Nat,IntsAre (idx.filterMap (vs.toArray[·]?)) (idx.filterMap (ns[·]?))
 | []=>.nil
 |k::idx=>by
  have e:vs.toArray[k]? =vs[k]? :=by simp
  rw[List.filterMap_cons,List.filterMap_cons,e]
  rcases intsAre_get h k with ⟨a,b⟩|⟨n,t,a,b⟩
  ·rw[a,b];exact intsAre_pick h idx
  ·rw[a,b];exact .cons n t (intsAre_pick h idx)
section
variable {prog:Program}{w:World}{A:Around}{E:Value->Shared->Prop}{s:Shared}{h₀:Heap}{L l:Addr}{m:Str->Option Value}{news:List (Addr×Obj)}{value slice:Expr}{vs:List Value}{ns:List Int}{vl vu vk:Value}{lo hi st:Option Int}{ops:List Value}{Q:Value->Shared->Prop}
end
theorem mod_million (a:Int):∃k:Nat,k<1000000/\a.fmod (10^Int.toNat 6)=(k:Int):=by
 have e:(10:Int)^Int.toNat 6=1000000:=by decide
 rw[e,Int.fmod_eq_emod_of_nonneg _ (by decide)]
 refine⟨(a%1000000).toNat,?_,?_⟩
 ·have:=Int.emod_lt_of_pos a (show(0:Int)<1000000 by decide)
  have:=Int.emod_nonneg a (show(1000000:Int)≠0 by decide)
  omega
 ·have:=Int.emod_nonneg a (show(1000000:Int)≠0 by decide)
  omega
end Uc
end
section
namespace Uc
set_option genInjectivity false in
set_option genSizeOf false in
structure WsA where
 a:Addr
 d:Addr
 P:Addr
 T:Addr
 vs:List Value
 tx:Tok
 tn:Tok
 tt:Tok
 tb:Tok
 k0:Tok
 k1:Tok
 k2:Tok
 k3:Tok
 k4:Tok
noncomputable abbrev wsDq (w:World)(q:WsA)(x:Str):Obj:=dictOf [{ hash:=PyData.keyHash w.params (ofString "raw"),key:=Value.str (ofString "raw") q.k0,val:=.str x q.tx },{ hash:=PyData.keyHash w.params (ofString "n"),key:=Value.str (ofString "n") q.k1,val:=.int ((wsOf x).n:Int) q.tn },{ hash:=PyData.keyHash w.params (ofString "nt"),key:=Value.str (ofString "nt") q.k2,val:=.int ((wsOf x).nt:Int) q.tt },{ hash:=PyData.keyHash w.params (ofString "norm"),key:=Value.str (ofString "norm") q.k3,val:=.ref q.P },{ hash:=PyData.keyHash w.params (ofString "is_simple"),key:=Value.str (ofString "is_simple") q.k4,val:=.bool (decide (((wsOf x).cs.length:Int)<=1)) }] 5
noncomputable abbrev wsPq (q:WsA)(x:Str):Obj:={ cls:=Value.type "tuple",data:=Data.seq #[Value.ref q.T,Value.int ((wsOf x).b:Int) q.tb] }
noncomputable abbrev wsTq (q:WsA):Obj:={ cls:=Value.type "tuple",data:=Data.seq q.vs.toArray }
noncomputable def wsLed (w:World)(x:Str)(q:WsA):Led:=(q.a,instObj 83 q.d)::(q.d,Uc.wsDq w q x)::(q.P,Uc.wsPq q x)::(q.T,Uc.wsTq q)::[]
noncomputable def wsLong (s:WS):Int:=max ((s.cs.length:Int)-1) (s.b:Int)
section
variable (w:World)(p:Program)(loose:List Str)(mean:ExcName->Option Value)(mg mb:Str->Option Value)
theorem longest_c (news:List (Addr×Obj))(x:Str)(q:WsA)(hq:IntsAre q.vs (wsOf x).cs)(hl:q.vs.length<=1000)(hb:(wsOf x).b<=1000):
  Con w p loose mean mg mb 45 4 30 [.ref q.a] ((q.a,instObj 83 q.d)::(q.d,Uc.wsDq w q x)::(q.P,Uc.wsPq q x)::(q.T,Uc.wsTq q)::news) (fun _=>True) (fun v n=>n=(q.a,instObj 83 q.d)::(q.d,Uc.wsDq w q x)::(q.P,Uc.wsPq q x)::(q.T,Uc.wsTq q)::news/\∃t,v=.int (wsLong (wsOf x)) t):=by
 have hlen:=intsAre_len hq
 dsimp only[Con,Pm]
 k_fill
 (set_option tactic.hygienic true in intros)
 rename_i hret
 refine wpAny_call ?_
 k_dflt cell_enter
 repeat' (first|(walk_at "P")|(walk_at "V";first|(((with_reducible show wpAny _ _ (call (Value.builtin "len") [Value.ref _]) _ _ _);refine kun_lenT (k:=((_:List Value).length:Int)) (News.isTup ‹_› (by k_mem)) (by simp only[List.size_toArray];rfl) (by omega) ?_))|(walk_at "T")))
 have e:∀a b:Int,(if b>a then b else a)=max a b:=fun a b=>by split<;>omega
 rw[e,hlen]
 exact hret _ _ _ _ ⟨rfl,_,rfl⟩ ‹_› ‹_›
end
end Uc
end
section
namespace Uc
noncomputable def colGo (sz:Nat):List Nat->Nat->Nat
 | [],c=>c
 |d::r,c=>colGo sz r (if d=32 then c+1 else(c / sz+1)*sz)
theorem colGo_cons (sz d:Nat)(r:List Nat)(c:Nat):colGo sz (d::r) c=colGo sz r (if d=32 then c+1 else(c / sz+1)*sz):=rfl
theorem spc_is2:ofString " "=(⟨#[32]⟩:Str):=by rfl
theorem col_le {sz c i d:Nat}(h1:1<=sz)(h:c<=i*sz):(if d=32 then c+1 else(c / sz+1)*sz)<=(i+1)*sz:=by
 rw[Nat.succ_mul]
 split
 ·omega
 ·rw[Nat.succ_mul];exact Nat.add_le_add_right (Nat.le_trans (Nat.div_mul_le_self _ _) h) _
section
variable (w:World)(p:Program)(loose:List Str)(mean:ExcName->Option Value)(mg mb:Str->Option Value)
theorem column_c (news:List (Addr×Obj))(x:Str)(sz:Nat)(tx ts:Tok)(hx:x.length<=1000)(h1:1<=sz)(h2:sz<=1000):
  Con w p loose mean mg mb 233 8 30 [.str x tx,.int (sz:Int) ts] news (fun _=>True) (fun v n=>n=news/\∃t,v=.int ((colGo sz x.cps.toList 0:Nat):Int) t):=by
 dsimp only[Con,Pm]
 k_fill
 (set_option tactic.hygienic true in intros)
 rename_i hret
 refine wpAny_call ?_
 (set_option tactic.hygienic true in k_dflt cell_enter)
 rename Fr _ _ _ _=>F0
 rename News _ _ _ _=>N0
 refine Uc.J.start (gl_ok ‹_› ‹_›) F0 N0 rfl rfl (by ktr_units) ?_
 clear F0 N0
 rename_i qk ek
 intro C
 have ret:∀{m:Str->Option Value} {v:Value} {h:Heap} {tk:Nat} {nw:Led},(fun v n=>n=news/\∃t,v=.int ((colGo sz x.cps.toList 0:Nat):Int) t) v nw->Fr C.h₀ C.L h m->News C.h₀ C.L h nw->C.Q (.ret v) (C.sg h tk):=by
  intro m v h tk nw hv F N
  dsimp only[C,qk] at F N ⊢
  exact leaveK_ F N fun kF kN=>hret _ _ _ _ hv kF kN
 have hE:PassesOwn C.M C.A C.env C.E:=PassesOwn.leaving
 refine J.gen [(ofString "lead",.str x tx),(ofString "size",.int (sz:Int) ts)] ⟨rfl,rfl,trivial⟩ fun u=>?_
 ((repeat(refine Uc.J.nil ?_));walk_at "a");intro t1
 refine J.forS (σ:=Nat×Tok) (y:=x) (fun _=>news) (fun c=>[(ofString "column",.int (c.1:Int) c.2),(ofString "lead",.str x tx),(ofString "size",.int (sz:Int) ts)])
  (fun i c=>colGo sz (x.cps.toList.drop i) c.1=colGo sz x.cps.toList 0/\c.1<=i*sz) (0,t1) tb0 ?hit hE rfl (fun _=>rfl) ⟨rfl,rfl,rfl,trivial⟩ ⟨rfl,Nat.zero_le _⟩ ?turn ?done fun _ h=>h
 case hit=>walk_at "s";exact rfl
 case turn=>
  intro i k t
  refine fpLooR fun col t2=>?_
  intro u I o hk hR hne hit C1
  dsimp -zeta only at hR ⊢
  have hi:i<x.length:=(Array.getElem?_eq_some_iff.mp hk).1
  have hc:col<=1000000:=Nat.le_trans hR.2 (Nat.mul_le_mul (Nat.le_trans (Nat.le_of_lt hi) hx) h2)
  have hq:((col / sz:Nat):Int)<=1000000:=Int.ofNat_le.mpr (Nat.le_trans (Nat.div_le_self _ _) hc)
  have hf:(col:Int).fdiv (sz:Int)=((col / sz:Nat):Int):=fdiv_nat col sz
  refine' J.asg_c tb0 ?jp rfl ?js ?jc fun t3=>?_
  case jp=>exact rfl
  case js=>exact rfl
  case jc=>
   intro _
   refine⟨⟨by omega,by omega⟩,?_⟩
   rw[hf]
   omega
  refine J.tn ((if k=32 then col+1 else(col / sz+1)*sz),t3) ⟨?e,rfl,rfl,trivial⟩ ⟨?r,col_le h1 hR.2⟩ (fun p hp=>.inl (List.mem_map_of_mem hp)) fun _ h=>h
  case e=>
   refine congrArg some (congrArg (Value.int · t3) ?_)
   rw[spc_is2,hf]
   by_cases h:k=32
   ·rw[if_pos (sgl_eq.mpr h),if_pos h];rfl
   ·rw[if_neg fun e=>h (sgl_eq.mp e),if_neg h];push_cast;rfl
  case r=>
   have e:=hR.1
   rw[drop_some hk,colGo_cons] at e
   exact e
 case done=>
  refine fpLooR fun col t2=>?_
  intro u hR
  have e:=hR.1
  dsimp only at e ⊢
  rw[List.drop_of_length_le (by simp)] at e
  ((repeat(refine Uc.J.nil ?_));walk_at "e")
  intro t h tk F N
  exact ret ⟨rfl,_,by rw[<-e];rfl⟩ F N
end
end Uc
end
section
namespace Uc
noncomputable def lessB (s t:WS):Bool:= !decide (t.n<=s.n)&&(if s.cs.length<=1/\t.cs.length<=1 then decide (s.nt<=t.nt) else(List.range (max (wsLong s) (wsLong t)).toNat).all fun i=>decide (colOf s (i+2)<colOf t (i+2)))
theorem J.genI {C:Cx}{m:Str->Option Value}{nw:Led}{st:List Stmt}{ks:List (List Stmt)}{x:Str}{a:Int}{t0:Tok}(ps:Nms)(hk:Has m ((x,.int a t0)::ps))(k:∀u t,J C (fm u ((x,.int a t)::ps)) nw st ks):J C m nw st ks:=J.gen ((x,.int a t0)::ps) hk fun u=>k u t0
section
variable (w:World)(p:Program)(loose:List Str)(mean:ExcName->Option Value)(mg mb:Str->Option Value)
theorem less_c (news:List (Addr×Obj))(x y:Str)(q r:WsA)(hq:IntsAre q.vs (wsOf x).cs)(hr:IntsAre r.vs (wsOf y).cs)(lq:q.vs.length<=100)(lr:r.vs.length<=100)(bq:(wsOf x).b<=100)(br:(wsOf y).b<=100)(hx:x.length<=1000)(hy:y.length<=1000):
  Con w p loose mean mg mb 73 16 60 [.ref q.a,.ref r.a] ((q.a,instObj 83 q.d)::(q.d,Uc.wsDq w q x)::(q.P,Uc.wsPq q x)::(q.T,Uc.wsTq q)::(r.a,instObj 83 r.d)::(r.d,Uc.wsDq w r y)::(r.P,Uc.wsPq r y)::(r.T,Uc.wsTq r)::news) (fun _=>True) (fun v n=>n=(q.a,instObj 83 q.d)::(q.d,Uc.wsDq w q x)::(q.P,Uc.wsPq q x)::(q.T,Uc.wsTq q)::(r.a,instObj 83 r.d)::(r.d,Uc.wsDq w r y)::(r.P,Uc.wsPq r y)::(r.T,Uc.wsTq r)::news/\v=.bool (lessB (wsOf x) (wsOf y))):=by
 obtain⟨led,hled⟩:∃l,l=(q.a,instObj 83 q.d)::(q.d,Uc.wsDq w q x)::(q.P,Uc.wsPq q x)::(q.T,Uc.wsTq q)::(r.a,instObj 83 r.d)::(r.d,Uc.wsDq w r y)::(r.P,Uc.wsPq r y)::(r.T,Uc.wsTq r)::news:=⟨_,rfl⟩
 rw[<-hled]
 have hsub:∀p∈(q.a,instObj 83 q.d)::(q.d,Uc.wsDq w q x)::(q.P,Uc.wsPq q x)::(q.T,Uc.wsTq q)::(r.a,instObj 83 r.d)::(r.d,Uc.wsDq w r y)::(r.P,Uc.wsPq r y)::(r.T,Uc.wsTq r)::news,p∈led:=fun p hp=>hled▸hp
 dsimp only[Con,Pm]
 k_fill
 (set_option tactic.hygienic true in intros)
 rename_i hret
 refine wpAny_call ?_
 (set_option tactic.hygienic true in k_dflt cell_enter)
 rename Fr _ _ _ _=>F0
 rename News _ _ _ _=>N0
 refine Uc.J.start (gl_ok ‹_› ‹_›) F0 N0 rfl rfl (by ktr_units) ?_
 clear F0 N0
 rename_i qk ek
 intro C
 have ret:∀{m:Str->Option Value} {v:Value} {h:Heap} {tk:Nat} {nw:Led},(fun v n=>n=led/\v=.bool (lessB (wsOf x) (wsOf y))) v nw->Fr C.h₀ C.L h m->News C.h₀ C.L h nw->C.Q (.ret v) (C.sg h tk):=by
  intro m v h tk nw hv F N
  dsimp only[C,qk] at F N ⊢
  exact leaveK_ F N fun kF kN=>hret _ _ _ _ hv kF kN
 have hE:PassesOwn C.M C.A C.env C.E:=PassesOwn.leaving
 have okC:CxOk C p loose mean mg mb (fun _=>True) 8 40:=⟨rfl,by assumption,by assumption,_,_,_,_,_,_,rfl,⟨_,_,_,_,_,rfl,rfl⟩,by assumption,trivial,by ktr_room,by ktr_units⟩
 have a0:AttrOk C led q.a (ofString "n") (.int ((wsOf x).n:Int) q.tn):=by
  intro m nw hs Qz qz h tk F N0
  have N:=News.sub (b:=(q.a,instObj 83 q.d)::(q.d,Uc.wsDq w q x)::(q.P,Uc.wsPq q x)::(q.T,Uc.wsTq q)::(r.a,instObj 83 r.d)::(r.d,Uc.wsDq w r y)::(r.P,Uc.wsPq r y)::(r.T,Uc.wsTq r)::news) N0 fun p hp=>hs p (hsub p hp)
  clear ret hE okC
  walk_at "X"
  exact qz _ _ F N0
 have a1:AttrOk C led r.a (ofString "n") (.int ((wsOf y).n:Int) r.tn):=by
  intro m nw hs Qz qz h tk F N0
  have N:=News.sub (b:=(q.a,instObj 83 q.d)::(q.d,Uc.wsDq w q x)::(q.P,Uc.wsPq q x)::(q.T,Uc.wsTq q)::(r.a,instObj 83 r.d)::(r.d,Uc.wsDq w r y)::(r.P,Uc.wsPq r y)::(r.T,Uc.wsTq r)::news) N0 fun p hp=>hs p (hsub p hp)
  clear ret hE okC
  walk_at "X"
  exact qz _ _ F N0
 have a2:AttrOk C led q.a (ofString "is_simple") (.bool (decide (((wsOf x).cs.length:Int)<=1))):=by
  intro m nw hs Qz qz h tk F N0
  have N:=News.sub (b:=(q.a,instObj 83 q.d)::(q.d,Uc.wsDq w q x)::(q.P,Uc.wsPq q x)::(q.T,Uc.wsTq q)::(r.a,instObj 83 r.d)::(r.d,Uc.wsDq w r y)::(r.P,Uc.wsPq r y)::(r.T,Uc.wsTq r)::news) N0 fun p hp=>hs p (hsub p hp)
  clear ret hE okC
  walk_at "X"
  exact qz _ _ F N0
 have a3:AttrOk C led r.a (ofString "is_simple") (.bool (decide (((wsOf y).cs.length:Int)<=1))):=by
  intro m nw hs Qz qz h tk F N0
  have N:=News.sub (b:=(q.a,instObj 83 q.d)::(q.d,Uc.wsDq w q x)::(q.P,Uc.wsPq q x)::(q.T,Uc.wsTq q)::(r.a,instObj 83 r.d)::(r.d,Uc.wsDq w r y)::(r.P,Uc.wsPq r y)::(r.T,Uc.wsTq r)::news) N0 fun p hp=>hs p (hsub p hp)
  clear ret hE okC
  walk_at "X"
  exact qz _ _ F N0
 have a4:AttrOk C led q.a (ofString "nt") (.int ((wsOf x).nt:Int) q.tt):=by
  intro m nw hs Qz qz h tk F N0
  have N:=News.sub (b:=(q.a,instObj 83 q.d)::(q.d,Uc.wsDq w q x)::(q.P,Uc.wsPq q x)::(q.T,Uc.wsTq q)::(r.a,instObj 83 r.d)::(r.d,Uc.wsDq w r y)::(r.P,Uc.wsPq r y)::(r.T,Uc.wsTq r)::news) N0 fun p hp=>hs p (hsub p hp)
  clear ret hE okC
  walk_at "X"
  exact qz _ _ F N0
 have a5:AttrOk C led r.a (ofString "nt") (.int ((wsOf y).nt:Int) r.tt):=by
  intro m nw hs Qz qz h tk F N0
  have N:=News.sub (b:=(q.a,instObj 83 q.d)::(q.d,Uc.wsDq w q x)::(q.P,Uc.wsPq q x)::(q.T,Uc.wsTq q)::(r.a,instObj 83 r.d)::(r.d,Uc.wsDq w r y)::(r.P,Uc.wsPq r y)::(r.T,Uc.wsTq r)::news) N0 fun p hp=>hs p (hsub p hp)
  clear ret hE okC
  walk_at "X"
  exact qz _ _ F N0
 refine J.gen [(ofString "self",.ref q.a),(ofString "other",.ref r.a)] ⟨rfl,rfl,trivial⟩ fun u=>?_
 refine' J.tab (TbOk.addA (TbOk.addA (TbOk.addA (TbOk.addA tb0 (x:=ofString "self") (.loc ?hm rfl rfl) a0) (x:=ofString "other") (.loc ?hn rfl rfl) a1) (x:=ofString "self") (.loc ?hm2 rfl rfl) a2) (x:=ofString "other") (.loc ?hn2 rfl rfl) a3) fun ht=>?_
 case hm=>exact rfl
 case hn=>exact rfl
 case hm2=>exact rfl
 case hn2=>exact rfl
 ((repeat(refine Uc.J.nil ?_));walk_at "i")<;>intro h1
 ·((repeat(refine Uc.J.nil ?_));walk_at "e")
  intro t h tk F N
  exact ret ⟨rfl,by unfold lessB;rw[decide_eq_true (Int.ofNat_le.mp h1)];rfl⟩ F N
 ((repeat(refine Uc.J.nil ?_));walk_at "i")<;>intro h2
 ·refine J.step fun h tk F N0=>?_
  have N:=News.sub (b:=(q.a,instObj 83 q.d)::(q.d,Uc.wsDq w q x)::(q.P,Uc.wsPq q x)::(q.T,Uc.wsTq q)::(r.a,instObj 83 r.d)::(r.d,Uc.wsDq w r y)::(r.P,Uc.wsPq r y)::(r.T,Uc.wsTq r)::news) N0 hsub
  walk_at "X"
  refine C.post_ret (ret ⟨rfl,?_⟩ ‹_› (News.sub (b:=led) ‹_› fun p hp=>hled▸hp)) _
  have e1:¬ (wsOf y).n<=(wsOf x).n:=by omega
  have e2:(wsOf x).cs.length<=1/\(wsOf y).cs.length<=1:=by
   have z1:=of_decide_eq_true h2.1
   have z2:=of_decide_eq_true h2.2
   omega
  unfold lessB
  rw[decide_eq_false e1,if_pos e2]
  exact congrArg Value.bool (decide_eq_decide.mpr Int.ofNat_le)
 have e1:¬ (wsOf y).n<=(wsOf x).n:=by omega
 have e2:¬ ((wsOf x).cs.length<=1/\(wsOf y).cs.length<=1):=fun z=>h2 ⟨decide_eq_true (by omega),decide_eq_true (by omega)⟩
 have eL:lessB (wsOf x) (wsOf y)=(List.range (max (wsLong (wsOf x)) (wsLong (wsOf y))).toNat).all fun i=>decide (colOf (wsOf x) (i+2)<colOf (wsOf y) (i+2)):=by
  unfold lessB
  rw[decide_eq_false e1,if_neg e2]
  rfl
 clear h1 h2 e1 e2 a0 a1 a2 a3 a4 a5 ht
 (repeat(refine Uc.J.nil ?_))
 refine J.step fun h tk F N0=>?_
 have N:=News.sub (b:=(q.a,instObj 83 q.d)::(q.d,Uc.wsDq w q x)::(q.P,Uc.wsPq q x)::(q.T,Uc.wsTq q)::(r.a,instObj 83 r.d)::(r.d,Uc.wsDq w r y)::(r.P,Uc.wsPq r y)::(r.T,Uc.wsTq r)::news) N0 hsub
 clear N0
 walk_at "X"
 refine okC.go (longest_c w p loose mean mg mb ((r.a,instObj 83 r.d)::(r.d,Uc.wsDq w r y)::(r.P,Uc.wsPq r y)::(r.T,Uc.wsTq r)::news) x q hq (by omega) (by omega)) ‹_› ‹_› (fun v1 n1 hR=>?_) (fun _ _=>trivial) (by decide) (by decide)
 obtain⟨rfl,t1,rfl⟩:=hR
 clear F N
 intro h tk F N
 walk_at "X"
 refine okC.go (longest_c w p loose mean mg mb ((q.a,instObj 83 q.d)::(q.d,Uc.wsDq w q x)::(q.P,Uc.wsPq q x)::(q.T,Uc.wsTq q)::news) y r hr (by omega) (by omega)) ‹_› (News.sub ‹_› (by walk_at "I")) (fun v1 n1 hR=>?_) (fun _ _=>trivial) (by decide) (by decide)
 obtain⟨rfl,t2,rfl⟩:=hR
 clear F N
 intro h tk F N0
 have N:=News.sub (b:=led) N0 (by rw[hled];exact(by walk_at "I"))
 clear N0
 walk_at "X"
 refine J.next ?_ ‹_› ‹_›
 have lx:=intsAre_len hq
 have ly:=intsAre_len hr
 obtain⟨M,hM,hM1⟩:∃M:Nat,(M:Int)=max (wsLong (wsOf x)) (wsLong (wsOf y))/\M<=100:=⟨(max (wsLong (wsOf x)) (wsLong (wsOf y))).toNat,Int.toNat_of_nonneg (Int.le_trans (Int.natCast_nonneg (wsOf x).b) (Int.le_trans (Int.le_max_right _ _) (Int.le_max_left _ _))),Int.toNat_le.mpr (Int.max_le.mpr ⟨Int.max_le.mpr ⟨by omega,by omega⟩,Int.max_le.mpr ⟨by omega,by omega⟩⟩)⟩
 rw[<-hM,Int.toNat_natCast] at eL
 refine J.genI (x:=ofString "n") (a:=(M:Int)+1) [(ofString "self",.ref q.a),(ofString "other",.ref r.a)] ⟨congrArg some (congrArg (Value.int · _) (by rw[hM];split<;>omega)),rfl,rfl,trivial⟩ fun u tM=>?_
 refine J.forR (σ:=Tok) (a:=2) (b:=(M:Int)+1+1) (c:=1) M (fun _=>led) (fun c=>[(ofString "n",.int ((M:Int)+1) tM),(ofString "self",.ref q.a),(ofString "other",.ref r.a)])
  (fun i _=>∀j<i,colOf (wsOf x) (j+2)<colOf (wsOf y) (j+2)) 0 (range2 tb0 rfl rfl rfl ?ha ?hb) (rsmall (by omega) (by omega) (by omega) (by omega) (by omega) (by omega)) ?hn hE rfl (fun _=>rfl) ⟨rfl,rfl,rfl,trivial⟩ (fun _ h=>absurd h (Nat.not_lt_zero _)) ?turn ?done fun _ h=>h
 case ha=>walk_at "s";exact rfl
 case hb=>walk_at "s";exact rfl
 case hn=>
  unfold Builtin.Range.rangeSize
  rw[if_pos (by decide)]
  split<;>omega
 case turn=>
  intro i t c' u I o hi hR hne hit C1
  have ok1:CxOk C1 p loose mean mg mb (fun _=>True) 8 40:=okC.setQ
  refine J.gen [(ofString "ts",.int ((i+2:Nat):Int) t),(ofString "self",.ref q.a),(ofString "other",.ref r.a),(ofString "n",.int ((M:Int)+1) tM)] ⟨congrArg some (congrArg (Value.int · t) (by omega)),rfl,rfl,rfl,trivial⟩ fun u2=>?_
  refine J.step ?_
  intro h tk F N0
  obtain⟨nw2,hn2⟩:∃l,l=news++[(I,o)]:=⟨_,rfl⟩
  have hl2:led++[(I,o)]=(q.a,instObj 83 q.d)::(q.d,Uc.wsDq w q x)::(q.P,Uc.wsPq q x)::(q.T,Uc.wsTq q)::(r.a,instObj 83 r.d)::(r.d,Uc.wsDq w r y)::(r.P,Uc.wsPq r y)::(r.T,Uc.wsTq r)::nw2:=by rw[hled,hn2];rfl
  rw[hl2] at N0
  have N:=N0
  clear N0
  walk_at "X"
  refine ok1.go (indent w p loose mean mg mb ((r.a,instObj 83 r.d)::(r.d,Uc.wsDq w r y)::(r.P,Uc.wsPq r y)::(r.T,Uc.wsTq r)::nw2) x q.a q.d q.P q.T q.vs q.tx q.tn q.tt q.tb q.k0 q.k1 q.k2 q.k3 q.k4 _ (i+2) hx hq (by omega) (by omega) (by omega)) ‹_› ‹_› (fun v1 n1 hS=>?_) (fun _ _=>trivial) (by decide) (by decide)
  obtain⟨rfl,t1,rfl⟩:=hS
  clear F N
  intro h tk F N
  walk_at "X"
  refine ok1.go (indent w p loose mean mg mb ((q.a,instObj 83 q.d)::(q.d,Uc.wsDq w q x)::(q.P,Uc.wsPq q x)::(q.T,Uc.wsTq q)::nw2) y r.a r.d r.P r.T r.vs r.tx r.tn r.tt r.tb r.k0 r.k1 r.k2 r.k3 r.k4 _ (i+2) hy hr (by omega) (by omega) (by omega)) ‹_› (News.sub ‹_› (by walk_at "I")) (fun v1 n1 hS=>?_) (fun _ _=>trivial) (by decide) (by decide)
  obtain⟨rfl,t2,rfl⟩:=hS
  clear F N
  intro h tk F N0
  have N:=News.sub (b:=(q.a,instObj 83 q.d)::(q.d,Uc.wsDq w q x)::(q.P,Uc.wsPq q x)::(q.T,Uc.wsTq q)::(r.a,instObj 83 r.d)::(r.d,Uc.wsDq w r y)::(r.P,Uc.wsPq r y)::(r.T,Uc.wsTq r)::nw2) N0 (by walk_at "I")
  clear N0
  walk_at "X"
  ·rename colOf _ _<=colOf _ _=>hle
   refine C1.post_ret (C.post_ret (ret ⟨rfl,?_⟩ ‹_› (News.sub (b:=led) ‹_› fun p hp=>by rw[hled] at hp;rw[hn2];exact List.mem_append_left [(I,o)] hp)) _) _
   rw[eL]
   refine congrArg Value.bool (Eq.symm (List.all_eq_false.mpr ⟨i,List.mem_range.mpr hi,?_⟩))
   rw[decide_eq_true_iff]
   exact Int.not_lt.mpr hle
  ·rename ¬ colOf _ _<=colOf _ _=>hle
   refine J.next (nw:=led++[(I,o)]) (J.tn c' ⟨rfl,rfl,rfl,trivial⟩ (fun j hj=>?_) (fun p hp=>.inl (List.mem_map_of_mem hp)) fun _ h=>h) ‹_› (by rw[hl2];assumption)
   rcases Nat.lt_succ_iff_lt_or_eq.mp hj with hj|rfl
   ·exact hR j hj
   ·exact Int.not_le.mp hle
 case done=>
  intro c' u hR
  ((repeat(refine Uc.J.nil ?_));walk_at "e")
  intro t h tk F N
  exact ret ⟨rfl,by rw[eL];exact congrArg Value.bool (Eq.symm (List.all_eq_true.mpr fun i hi=>decide_eq_true (hR i (List.mem_range.mp hi))))⟩ F N
end
end Uc
end
section
namespace Uc
noncomputable def bases2:List Nat:=[97,65,119808,119860,119912,120172,120224,120276,120328,120380,120432]
noncomputable def typ:Nat->List Nat->Nat->List Nat×Nat
 |0,_,_=>([],0)
 |_+1,[],_=>([],0)
 |k+1,c::t,r=>
  if (c::t).take (3-r%3)=[102,102,105] then(64259::(typ k ((c::t).drop 3) (r / 33)).1,6+(typ k ((c::t).drop 3) (r / 33)).2)
  else if (c::t).take (3-r%3)=[102,102] then(64256::(typ k ((c::t).drop 2) (r / 33)).1,4+(typ k ((c::t).drop 2) (r / 33)).2)
  else if (c::t).take (3-r%3)=[102,105] then(64257::(typ k ((c::t).drop 2) (r / 33)).1,4+(typ k ((c::t).drop 2) (r / 33)).2)
  else((bases2.getD (r / 3%11) 97+c-97)::(typ k t (r / 33)).1,min (r / 3%11) 2+(typ k t (r / 33)).2)
theorem typ_eq (k c:Nat)(t:List Nat)(r:Nat):typ (k+1) (c::t) r= 
  if (c::t).take (3-r%3)=[102,102,105] then(64259::(typ k ((c::t).drop 3) (r / 33)).1,6+(typ k ((c::t).drop 3) (r / 33)).2)
  else if (c::t).take (3-r%3)=[102,102] then(64256::(typ k ((c::t).drop 2) (r / 33)).1,4+(typ k ((c::t).drop 2) (r / 33)).2)
  else if (c::t).take (3-r%3)=[102,105] then(64257::(typ k ((c::t).drop 2) (r / 33)).1,4+(typ k ((c::t).drop 2) (r / 33)).2)
  else((bases2.getD (r / 3%11) 97+c-97)::(typ k t (r / 33)).1,min (r / 3%11) 2+(typ k t (r / 33)).2):=rfl
noncomputable def typed2 (t:List Nat)(n:Nat):List Nat:=(typ t.length t n).1
noncomputable def price2 (t:List Nat)(n:Nat):Nat:=(typ t.length t n).2
theorem base2_eq (z:Nat)(h:z<11):([97,65,119808,119860,119912,120172,120224,120276,120328,120380,120432]:List Int).getD z 0=((bases2.getD z 97:Nat):Int):=by
 revert z
 decide+kernel
theorem base2_rng (z:Nat)(h:z<11):65<=bases2.getD z 97/\bases2.getD z 97<=120432:=by
 revert z
 decide+kernel
end Uc
end
section
namespace Uc
theorem fp6 {α0 α1 α2 α3 α4 α5:Type}{P:(α0×α1×α2×α3×α4×α5)->Prop}(h:∀a0 a1 a2 a3 a4 a5,P (a0,a1,a2,a3,a4,a5)):∀c,P c:=fun c=>h c.1 c.2.1 c.2.2.1 c.2.2.2.1 c.2.2.2.2.1 c.2.2.2.2.2
theorem add_lig {y:List Nat}{s:Str}(hs:s.length=1)(h:y.length<=20000):(⟨y.toArray⟩:Str).length+s.length<=sizeLine:=by
 rw[len_mk,hs,sizeLine_eq];omega
theorem app_lig (y:List Nat)(c:Nat){s:Str}(e:s=chr1 c):(⟨y.toArray⟩:Str)++s=⟨(y++[c]).toArray⟩:=e▸app2 y [c]
theorem cmin (a b:Nat):min (a:Int) (b:Int)=((min a b:Nat):Int):=(Nat.le_total a b).elim (fun h=>by rw[Nat.min_eq_left h,Int.min_eq_left (Int.ofNat_le.mpr h)]) (fun h=>by rw[Nat.min_eq_right h,Int.min_eq_right (Int.ofNat_le.mpr h)])
section
variable (w:World)(p:Program)(loose:List Str)(mean:ExcName->Option Value)(mg mb:Str->Option Value)
theorem item_head2 (c:Nat)(t:List Nat):Txt.item ⟨(c::t).toArray⟩ 0=chr1 c:=by
 unfold Txt.item Txt.charAt seqIndex?
 simp[chr1,Str.length]
theorem lig_iff2 (P:List Nat):([ofString "ffi",ofString "ff",ofString "fi"].any fun x=>x==(⟨P.toArray⟩:Str))=true↔P=[102,102,105]∨P=[102,102]∨P=[102,105]:=by
 constructor
 ·intro h
  by_cases a:P=[102,102,105]
  ·exact .inl a
  by_cases b:P=[102,102]
  ·exact .inr (.inl b)
  by_cases c:P=[102,105]
  ·exact .inr (.inr c)
  rw[no_lig a b c] at h
  cases h
 ·rintro(rfl|rfl|rfl)<;>rfl
theorem typed_c (news:List (Addr×Obj))(x:List Nat)(tx tn:Tok)(n:Nat)(hx:x.length<=3)(hc:∀c∈x,c=102∨c=105)(hn:n<=1000000):
  Con w p loose mean mg mb 221 12 40 [.str ⟨x.toArray⟩ tx,.int (n:Int) tn] news (fun _=>True) (fun v n'=>∃a t1 t2,v=.ref a/\n'=(a,{ cls:=Value.type "tuple",data:=Data.seq #[Value.str ⟨(typed2 x n).toArray⟩ t1,Value.int ((price2 x n:Nat):Int) t2] })::news):=by
 dsimp only[Con,Pm]
 k_fill
 (set_option tactic.hygienic true in intros)
 rename_i hret
 refine wpAny_call ?_
 (set_option tactic.hygienic true in k_dflt cell_enter)
 rename Fr _ _ _ _=>F0
 rename News _ _ _ _=>N0
 refine Uc.J.start (gl_ok ‹_› ‹_›) F0 N0 rfl rfl (by ktr_units) ?_
 clear F0 N0
 rename_i qk ek
 intro C
 have ret:∀{m:Str->Option Value} {v:Value} {h:Heap} {tk:Nat} {nw:Led},(fun v n'=>∃a t1 t2,v=.ref a/\n'=(a,{ cls:=Value.type "tuple",data:=Data.seq #[Value.str ⟨(typed2 x n).toArray⟩ t1,Value.int ((price2 x n:Nat):Int) t2] })::news) v nw->Fr C.h₀ C.L h m->News C.h₀ C.L h nw->C.Q (.ret v) (C.sg h tk):=by
  intro m v h tk nw hv F N
  dsimp only[C,qk] at F N ⊢
  exact leaveK_ F N fun kF kN=>hret _ _ _ _ hv kF kN
 have hE:PassesOwn C.M C.A C.env C.E:=PassesOwn.leaving
 refine J.gen [(ofString "text",.str ⟨x.toArray⟩ tx),(ofString "rest",.int (n:Int) tn)] ⟨rfl,rfl,trivial⟩ fun u=>?_
 refine J.step ?_
 intro h tk F N
 walk_at "X"
 refine J.next ?_ ‹_› (News.sub (b:=news) ‹_› (by walk_at "I"))
 refine J.while (σ:=List Nat×Nat×List Nat×Nat×Tok×Tok×Tok×Tok) (fun _=>news)
  (fun c=>[(ofString "text",.str ⟨c.1.toArray⟩ c.2.2.2.2.1),(ofString "rest",.int (c.2.1:Int) c.2.2.2.2.2.1),(ofString "typed",.str ⟨c.2.2.1.toArray⟩ c.2.2.2.2.2.2.1),(ofString "price",.int (c.2.2.2.1:Int) c.2.2.2.2.2.2.2)])
  (fun c=>(∃k,c.1.length<=k/\typ x.length x n=(c.2.2.1++(typ k c.1 c.2.1).1,c.2.2.2.1+(typ k c.1 c.2.1).2))/\c.1.length+c.2.2.1.length<=3/\(∀d∈c.1,d=102∨d=105)/\c.2.1<=1000000/\c.2.2.2.1<=6*c.2.2.1.length)
  (fun c=>c.1.length) (x,n,[],0,_,_,_,_) (fun _=>_) (fun _ _ _=>tb0) hE ⟨rfl,rfl,rfl,rfl,trivial⟩ ⟨⟨_,Nat.le_refl _,by simp⟩,hx,hc,hn,Nat.zero_le _⟩ ?turn fun _ h=>h
 refine fpLooooooooR fun t r y pr t1 t2 t3 t4=>?_
 intro u hR
 (refine Uc.ah5 hR fun w31q h3 h4 h5 h6=>?_;clear hR);(refine Uc.ex1 w31q fun k=>Uc.an2 fun hk h1=>?_;clear w31q)
 dsimp only at hk h1 h3 h4 h5 h6
 dsimp -zeta only
 walk_at "b"
 refine⟨fun hp=>?_,fun hp=>?_⟩
 ·intro C1
  cases t with
  |nil=>exact absurd rfl hp
  |cons c t=>
  clear hp
  obtain⟨k,rfl⟩:∃k',k=k'+1:=⟨k-1,by rw[List.length_cons] at hk;omega⟩
  rw[List.length_cons] at hk h3
  have hc4:=h4 c (.head _)
  have hy3:y.length<=3:=by omega
  have hsz:(⟨(c::t).toArray⟩:Str).length=t.length+1:=rfl
  have hp:Txt.slice ⟨(c::t).toArray⟩ none (some (3-(r:Int).fmod 3))=⟨((c::t).take (3-r%3)).toArray⟩:=slice_take (c::t) (3-r%3) _ (by
   have e3:(r:Int).fmod 3=((r%3:Nat):Int):=fmod_nat r 3
   rw[e3]
   have h9:r%3<3:=Nat.mod_lt _ (by decide)
   generalize r%3=z at h9
   omega)
  rw[typ_eq] at h1
  refine' J.asg_c tb0 ?jp rfl ?js ?jc fun t5=>?_
  case jp=>exact rfl
  case js=>exact rfl
  case jc=>exact⟨⟨by decide,by decide⟩,by omega⟩
  dsimp only[PV.den]
  rw[hp]
  clear hp
  obtain⟨P,hP⟩:∃P,P=(c::t).take (3-r%3):=⟨_,rfl⟩
  rw[<-hP] at h1 ⊢
  have hPl:P.length<=t.length+1:=by rw[hP,List.length_take,List.length_cons];exact Nat.min_le_right _ _
  refine J.stepJ (σ:=List Nat×Nat×Nat×Tok×Tok×Tok) (fun _=>news)
   (fun z=>[(ofString "text",.str ⟨(c::t).toArray⟩ t1),(ofString "rest",.int (r:Int) t2),(ofString "typed",.str ⟨(y++[z.2.1]).toArray⟩ z.2.2.2.1),(ofString "price",.int ((pr:Int)+(z.2.2.1:Nat)) z.2.2.2.2.1),(ofString "piece",.str ⟨z.1.toArray⟩ z.2.2.2.2.2)])
   (fun z=>1<=z.1.length/\z.1.length<=t.length+1/\typ x.length x n=(y++(z.2.1::(typ k ((c::t).drop z.1.length) (r / 33)).1),pr+(z.2.2.1+(typ k ((c::t).drop z.1.length) (r / 33)).2))/\z.2.2.1<=6) ?j1 ?j2
  case j1=>
   refine At.gen [(ofString "piece",.str ⟨P.toArray⟩ t5),(ofString "text",.str ⟨(c::t).toArray⟩ t1),(ofString "rest",.int (r:Int) t2),(ofString "typed",.str ⟨y.toArray⟩ t3),(ofString "price",.int (pr:Int) t4)] ⟨rfl,rfl,rfl,rfl,rfl,trivial⟩ fun u=>?_
   refine if_x (p:=P=[102,102,105]∨P=[102,102]∨P=[102,105]) (fun Q q h tk F N=>?_) (fun hlig=>?_) (fun hlig=>?_)
   ·dsimp only[Cx.sg] at F N ⊢
    walk_at "X"
    exact q _ (lig_iff2 P) _ _ ‹_› (News.sub ‹_› (by walk_at "I"))
   ·intro C2
    refine J.step ?_
    intro h tk F N
    dsimp only[Cx.sg] at F N ⊢
    repeat' (first|(walk_at "P")|(walk_at "V";(fail_if_success (with_reducible show wpAny _ _ (subscriptTail _ _ (Value.ref _) (Value.str _ _)) _ _ _));first|((with_reducible show wpAny _ _ (binaryOp Operator.Add (Value.str _ _) (Value.str _ _)) _ _ _);(dsimp only;refine SB.add ?_ (by exact Uc.add_lig (by rfl) (by omega));intro _ _))|(walk_at "T")))
    clear F
    rename Fr _ _ _ _=>F
    rcases hlig with e|hlig
    ·skip
     rw[e] at hPl
     rw[if_pos e] at h1
     rw[e,show(⟨[102,102,105].toArray⟩:Str)=ofString "ffi" from by rfl] at F ⊢
     repeat' (first|(walk_at "P")|(walk_at "V";first|((with_reducible show wpAny _ _ (binaryOp Operator.Add (Value.str _ _) (Value.str _ _)) _ _ _);(dsimp only;refine SB.add ?_ (by exact Uc.add_lig (by rfl) (by omega));intro _ _))|(walk_at "T")))
     refine J.next ?_ ‹_› (News.sub (b:=news) ‹_› (by walk_at "I"))
     refine J.gen [(ofString "typed",.str ⟨(y++[64259]).toArray⟩ _),(ofString "piece",.str ⟨[102,102,105].toArray⟩ t5),(ofString "text",.str ⟨(c::t).toArray⟩ t1),(ofString "rest",.int (r:Int) t2),(ofString "price",.int (pr:Int) t4)] ⟨congrArg some (congrArg (Value.str · _) (app_lig y 64259 (by rfl))),rfl,rfl,rfl,rfl,trivial⟩ fun u=>?_
     refine' J.asg_c tb0 ?jp rfl ?js ?jc fun t6=>?_
     case jp=>exact rfl
     case js=>exact rfl
     case jc=>exact⟨by decide,by decide⟩
     exact J.jl ([102,102,105],64259,6,_,_,_) rfl ⟨rfl,rfl,rfl,rfl,rfl,trivial⟩ ⟨Nat.succ_le_succ (Nat.zero_le _),hPl,h1,show(6:Nat)<=6 by decide⟩
    rcases hlig with e|e
    ·skip
     rw[e] at hPl
     rw[if_neg (by rw[e];decide),if_pos e] at h1
     rw[e,show(⟨[102,102].toArray⟩:Str)=ofString "ff" from by rfl] at F ⊢
     repeat' (first|(walk_at "P")|(walk_at "V";first|((with_reducible show wpAny _ _ (binaryOp Operator.Add (Value.str _ _) (Value.str _ _)) _ _ _);(dsimp only;refine SB.add ?_ (by exact Uc.add_lig (by rfl) (by omega));intro _ _))|(walk_at "T")))
     refine J.next ?_ ‹_› (News.sub (b:=news) ‹_› (by walk_at "I"))
     refine J.gen [(ofString "typed",.str ⟨(y++[64256]).toArray⟩ _),(ofString "piece",.str ⟨[102,102].toArray⟩ t5),(ofString "text",.str ⟨(c::t).toArray⟩ t1),(ofString "rest",.int (r:Int) t2),(ofString "price",.int (pr:Int) t4)] ⟨congrArg some (congrArg (Value.str · _) (app_lig y 64256 (by rfl))),rfl,rfl,rfl,rfl,trivial⟩ fun u=>?_
     refine' J.asg_c tb0 ?jp rfl ?js ?jc fun t6=>?_
     case jp=>exact rfl
     case js=>exact rfl
     case jc=>exact⟨by decide,by decide⟩
     exact J.jl ([102,102],64256,4,_,_,_) rfl ⟨rfl,rfl,rfl,rfl,rfl,trivial⟩ ⟨Nat.succ_le_succ (Nat.zero_le _),hPl,h1,show(4:Nat)<=6 by decide⟩
    ·skip
     rw[e] at hPl
     rw[if_neg (by rw[e];decide),if_neg (by rw[e];decide),if_pos e] at h1
     rw[e,show(⟨[102,105].toArray⟩:Str)=ofString "fi" from by rfl] at F ⊢
     repeat' (first|(walk_at "P")|(walk_at "V";first|((with_reducible show wpAny _ _ (binaryOp Operator.Add (Value.str _ _) (Value.str _ _)) _ _ _);(dsimp only;refine SB.add ?_ (by exact Uc.add_lig (by rfl) (by omega));intro _ _))|(walk_at "T")))
     refine J.next ?_ ‹_› (News.sub (b:=news) ‹_› (by walk_at "I"))
     refine J.gen [(ofString "typed",.str ⟨(y++[64257]).toArray⟩ _),(ofString "piece",.str ⟨[102,105].toArray⟩ t5),(ofString "text",.str ⟨(c::t).toArray⟩ t1),(ofString "rest",.int (r:Int) t2),(ofString "price",.int (pr:Int) t4)] ⟨congrArg some (congrArg (Value.str · _) (app_lig y 64257 (by rfl))),rfl,rfl,rfl,rfl,trivial⟩ fun u=>?_
     refine' J.asg_c tb0 ?jp rfl ?js ?jc fun t6=>?_
     case jp=>exact rfl
     case js=>exact rfl
     case jc=>exact⟨by decide,by decide⟩
     exact J.jl ([102,105],64257,4,_,_,_) rfl ⟨rfl,rfl,rfl,rfl,rfl,trivial⟩ ⟨Nat.succ_le_succ (Nat.zero_le _),hPl,h1,show(4:Nat)<=6 by decide⟩
   ·intro C2
    rw[if_neg (fun e=>hlig (.inl e)),if_neg (fun e=>hlig (.inr (.inl e))),if_neg (fun e=>hlig (.inr (.inr e)))] at h1
    clear hlig
    have hz11:r / 3%11<11:=Nat.mod_lt _ (by decide)
    have hzf:((r:Int).fdiv 3).fmod 11=((r / 3%11:Nat):Int):=(congrArg (Int.fmod · 11) (fdiv_nat r 3)).trans (fmod_nat _ 11)
    refine' J.asg_c tb0 ?jp rfl ?js ?jc fun t6=>?_
    case jp=>exact rfl
    case js=>exact rfl
    case jc=>rw[hsz];omega
    dsimp only[PV.den]
    rw[item_head2]
    refine' J.asg_c tb0 ?jp rfl ?js ?jc fun t7=>?_
    case jp=>exact rfl
    case js=>exact rfl
    case jc=>exact⟨⟨by decide,by decide⟩,by decide,by decide⟩
    dsimp only[PV.den]
    rw[hzf]
    obtain⟨z,hz⟩:∃z,z=r / 3%11:=⟨_,rfl⟩
    rw[<-hz] at h1 hz11 ⊢
    clear hz hzf
    have hB:=base2_rng z hz11
    refine J.step ?_
    intro h tk F N
    dsimp only[Cx.sg] at F N ⊢
    walk_at "X"
    rename Fr _ _ _ _=>F7
    rw[Int.toNat_natCast,base2_eq z hz11] at F7
    refine J.next ?_ F7 (News.sub (b:=news) ‹_› (by walk_at "I"))
    obtain⟨B,hB2⟩:∃B,B=bases2.getD z 97:=⟨_,rfl⟩
    rw[<-hB2] at h1 hB ⊢
    clear hB2
    have hg:(chr1 c).cps.getD 0 0=c:=rfl
    have h1c:(chr1 c).length=1:=rfl
    refine' J.asg_c tb0 ?jp rfl ?js ?jc fun t8=>?_
    case jp=>exact rfl
    case js=>exact rfl
    case jc=>
     have h9:102<=c/\c<=105:=by omega
     rw[hg]
     exact⟨⟨h1c,by omega,by omega⟩,by rw[len_mk];show y.length+1<=_;omega⟩
    refine' J.asg tb0 ?jp rfl ?js fun t9=>?_
    case jp=>exact rfl
    case js=>exact rfl
    dsimp only[PV.den]
    refine J.jl ([c],B+c-97,min z 2,t8,t9,t6) rfl ⟨rfl,rfl,?e1,?e2,rfl,trivial⟩ ⟨Nat.le_refl _,Nat.succ_le_succ (Nat.zero_le _),h1,show min z 2<=6 by omega⟩
    case e1=>exact congrArg some (congrArg (Value.str · t8) (app_lig y _ (congrArg (fun q:Nat=>(⟨#[q]⟩:Str)) (by rw[hg];exact Int.toNat_sub (B+c) 97))))
    case e2=>exact congrArg some (congrArg (Value.int · t9) (congrArg ((pr:Int)+·) (cmin z 2)))
  case j2=>
   clear h1
   refine fp6 fun pl code pc ta tb tc=>?_
   intro u hz
   (refine Uc.ah4 hz fun g1 g2 g3 g4=>?_;clear hz)
   dsimp only at g1 g2 g3 g4 ⊢
   have hpl:(⟨pl.toArray⟩:Str).length=pl.length:=len_mk pl
   refine' J.asg2 tb0 rfl rfl ?jw ?jx ?jy ?_
   case jw=>exact rfl
   case jx=>exact rfl
   case jy=>exact rfl
   walk_at "s"
   walk_at "s"
   intro t6 t7
   dsimp only[PV.den]
   refine J.turn ((c::t).drop pl.length,r / 33,y++[code],pr+pc,_,_,_,_) ⟨congrArg some (congrArg (Value.str · _) (slice_drop _ pl.length _ (congrArg (fun m:Nat=>(m:Int)) hpl))),congrArg some (congrArg (Value.int · _) (fdiv_nat r 33)),rfl,rfl,trivial⟩ ⟨⟨k,by dsimp only;rw[List.length_drop,List.length_cons];omega,by dsimp only;rw[g3];simp[Nat.add_assoc]⟩,?_,fun d hd=>h4 d (List.mem_of_mem_drop hd),Nat.le_trans (Nat.div_le_self _ _) h5,?_⟩ ?_ fun _ h=>h
   ·dsimp only;rw[List.length_drop,List.length_cons,List.length_append,List.length_singleton];omega
   ·dsimp only;rw[List.length_append,List.length_singleton];omega
   ·dsimp only;rw[List.length_drop,List.length_cons];omega
 ·have h1':typ x.length x n=(y,pr):=by
   cases t with
   |nil=>rw[h1];cases k<;>simp[typ]
   |cons c t=>exact absurd (show t.length+1=0 from congrArg (fun x:Str=>x.cps.size) (Classical.not_not.mp hp)) (Nat.succ_ne_zero _)
  have e1:typed2 x n=y:=by unfold typed2;rw[h1']
  have e2:price2 x n=pr:=by unfold price2;rw[h1']
  rw[e1,e2] at ret
  refine J.step ?_
  intro h tk F N
  walk_at "X"
  exact C.post_ret (ret ⟨_,_,_,rfl,rfl⟩ ‹_› ‹_›) _
end
end Uc
end
section
namespace Uc
noncomputable def raw2 (l y:List Nat)(n:Nat):List Nat:=l.take (n / 27%(l.length+1))++[signOf n]++l.drop (n / 27%(l.length+1))++y
noncomputable def quoted2 (raw:List Nat)(n:Nat):List Nat:=if n / 5%2=0 then 34::92::raw++[34] else(raw.map fun c=>[92,c]).flatten
noncomputable def spelled2 (l y:List Nat)(n:Nat):List Nat:=quoted2 (raw2 l y n) n++[wsS.getD (n / 10%4) 0]
theorem raw2_len (l y:List Nat)(n:Nat):(raw2 l y n).length=l.length+y.length+1:=by
 unfold raw2
 have h:n / 27%(l.length+1)<=l.length:=Nat.lt_succ_iff.mp (Nat.mod_lt _ (Nat.succ_pos _))
 rw[List.length_append,List.length_append,List.length_append,List.length_take,List.length_drop,Nat.min_eq_left h]
 show n / 27%(l.length+1)+1+(l.length-n / 27%(l.length+1))+y.length=_
 rw[Nat.add_right_comm _ 1,Nat.add_sub_of_le h,Nat.add_right_comm]
theorem five (n:Nat):((n:Int).fdiv 5).fmod 2=0↔n / 5%2=0:=by
 have e:((n:Int).fdiv 5).fmod 2=((n / 5%2:Nat):Int):=(congrArg (Int.fmod · 2) (fdiv_nat n 5)).trans (fmod_nat _ 2)
 rw[e]
 omega
end Uc
end
section
namespace Uc
section
variable (w:World)(p:Program)(loose:List Str)(mean:ExcName->Option Value)(mg mb:Str->Option Value)
theorem spelled2_c (news:List (Addr×Obj))(l y:List Nat)(tl ty tn:Tok)(n:Nat)(hl:l.length<=4)(hy:y.length<=3)(hn:n<=1000000):
  Con w p loose mean mg mb 226 12 40 [.str ⟨l.toArray⟩ tl,.str ⟨y.toArray⟩ ty,.int (n:Int) tn] news (fun _=>True) (fun v n'=>n'=news/\∃t,v=.str ⟨(spelled2 l y n).toArray⟩ t):=by
 dsimp only[Con,Pm]
 k_fill
 (set_option tactic.hygienic true in intros)
 rename_i hret
 refine wpAny_call ?_
 (set_option tactic.hygienic true in k_dflt cell_enter)
 rename Fr _ _ _ _=>F0
 rename News _ _ _ _=>N0
 refine Uc.J.start (gl_ok ‹_› ‹_›) F0 N0 rfl rfl (by ktr_units) ?_
 clear F0 N0
 rename_i qk ek
 intro C
 have ret:∀{m:Str->Option Value} {v:Value} {h:Heap} {tk:Nat} {nw:Led},(fun v n'=>n'=news/\∃t,v=.str ⟨(spelled2 l y n).toArray⟩ t) v nw->Fr C.h₀ C.L h m->News C.h₀ C.L h nw->C.Q (.ret v) (C.sg h tk):=by
  intro m v h tk nw hv F N
  dsimp only[C,qk] at F N ⊢
  exact leaveK_ F N fun kF kN=>hret _ _ _ _ hv kF kN
 have hE:PassesOwn C.M C.A C.env C.E:=PassesOwn.leaving
 refine J.gen [(ofString "lead",.str ⟨l.toArray⟩ tl),(ofString "typed",.str ⟨y.toArray⟩ ty),(ofString "number",.int (n:Int) tn)] ⟨rfl,rfl,rfl,trivial⟩ fun u=>?_
 have ll:(⟨l.toArray⟩:Str).length=l.length:=len_mk l
 have lly:(⟨y.toArray⟩:Str).length=y.length:=len_mk y
 refine' J.asg2 tb0 rfl rfl ?jw ?jx ?jy ?_
 case jw=>exact rfl
 case jx=>exact rfl
 case jy=>exact rfl
 walk_at "s"
 walk_at "s"
 intro t1 t2
 dsimp only[PV.den]
 rw[ll]
 have hk27:(n:Int).fmod 27=((n%27:Nat):Int):=fmod_nat n 27
 have hk27':n%27<27:=Nat.mod_lt _ (by decide)
 have hpz:((n:Int).fdiv 27).fmod ((l.length:Int)+1)=((n / 27%(l.length+1):Nat):Int):=(congrArg (Int.fmod · ((l.length:Int)+1)) (fdiv_nat n 27)).trans (fmod_nat _ (l.length+1))
 refine' J.asg_c tb0 ?jp rfl ?js ?jc fun t8=>?_
 case jp=>exact rfl
 case js=>exact rfl
 case jc=>
  rw[hk27]
  refine⟨fun h=>⟨by decide,?_,?_⟩,fun h=>?_⟩
  ·show -((11:Nat):Int)<=_;omega
  ·show _<((11:Nat):Int);omega
  ·omega
 dsimp only[PV.den]
 have hsg:(@ite Str ((n:Int).fmod 27<11) (Classical.propDecidable _) (Txt.item (ofString "\u00ad\u034f\u1806\u180b\u180c\u180d\u200b\u200c\u200d\u2060\ufeff") ((n:Int).fmod 27)) ⟨#[(65013+(n:Int).fmod 27).toNat]⟩)=⟨[signOf n].toArray⟩:=by
  split
  ·exact sign_lo n ‹_›
  ·exact sign_hi n ‹_›
 rw[hsg,hpz]
 clear hsg hk27 hpz
 have eA:Txt.slice ⟨l.toArray⟩ none (some ((n / 27%(l.length+1):Nat):Int))=⟨(l.take (n / 27%(l.length+1))).toArray⟩:=slice_take l _ _ rfl
 have eB:Txt.slice ⟨l.toArray⟩ (some ((n / 27%(l.length+1):Nat):Int)) none=⟨(l.drop (n / 27%(l.length+1))).toArray⟩:=slice_drop l _ _ rfl
 refine' J.asg_c tb0 ?jp rfl ?js ?jc fun t9=>?_
 case jp=>exact rfl
 case js=>exact rfl
 case jc=>
  rw[eA,eB,show(⟨#[signOf n]⟩:Str)=⟨[signOf n].toArray⟩ from rfl,app2,app2,ll,lly]
  simp only[len_mk,List.length_append,List.length_take,List.length_drop,List.length_cons,List.length_nil]
  have hd:n / 27%(l.length+1)<=l.length:=Nat.lt_succ_iff.mp (Nat.mod_lt _ (Nat.succ_pos _))
  rw[Nat.min_eq_left hd]
  have hs:=Nat.add_sub_of_le hd
  generalize l.length-n / 27%(l.length+1)=b at hs ⊢
  generalize n / 27%(l.length+1)=a at hs ⊢
  omega
 dsimp only[PV.den]
 rw[eA,eB,show(⟨#[signOf n]⟩:Str)=⟨[signOf n].toArray⟩ from rfl,app2,app2,app2]
 clear eA eB ll lly
 have hrl:=raw2_len l y n
 refine J.gen [(ofString "raw",.str ⟨(raw2 l y n).toArray⟩ t9),(ofString "number",.int (n:Int) tn)] ⟨rfl,rfl,trivial⟩ fun u=>?_
 obtain⟨W,hW⟩:∃W,W=raw2 l y n:=⟨_,rfl⟩
 rw[<-hW] at hrl ⊢
 refine J.stepJ (σ:=List Nat×Tok) (fun _=>news) (fun c=>[(ofString "raw",.str ⟨c.1.toArray⟩ c.2),(ofString "number",.int (n:Int) tn)]) (fun c=>c.1.length<=20/\c.1=quoted2 W n) ?g1 ?g2
 case g1=>
  intro h tk F N
  dsimp only[Cx.sg] at F N ⊢
  repeat' (first|(walk_at "P")|(walk_at "V";first|((with_reducible show wpAny _ _ (callWith _ (Value.builtin _) _ _ _) _ _ _);dsimp only;first|((with_reducible show wpAny _ _ (callWith _ (Value.builtin "list.append") _ _ _) _ _ _);refine callWith_method1 ?_)|((with_reducible show wpAny _ _ (callWith _ (Value.builtin "str.join") _ _ _) _ _ _);refine callWith_method1 ?_))|((with_reducible show wpAny _ _ (eval (Expr.ListComp _ _ _ _) _) _ _ _);(k_dflt (refine Uc.comp_str (by rfl) (by decide) (by rfl) (by decide) (by rfl) ?_ (by intro _;rfl))))|(walk_at "T")))
  ·rename ((n:Int).fdiv 5).fmod 2=0=>h5
   have ez:ofString "\"\\"++(⟨W.toArray⟩:Str)++ofString "\""=⟨(34::92::W++[34]).toArray⟩:=by rw[appQ1,appQ2]
   refine⟨(34::92::W++[34],_),_,_,_,rfl,‹_›,‹_›,⟨congrArg some (congrArg (Value.str · _) ez),rfl,trivial⟩,?_,?_⟩
   ·dsimp only;simp only[List.length_append,List.length_cons,List.length_nil];omega
   ·exact(if_pos ((five n).mp h5)).symm
  ·rename ¬ ((n:Int).fdiv 5).fmod 2=0=>h5
   rename Fr _ _ _ _=>F7
   rename News _ _ _ _=>N7
   refine Uc.ei7 _ _ _ (⟨W.toArray⟩) _ _ (fun i ys nw=>nw=news/\StrsAre ys ((W.take i).map esc1)) ⟨rfl,rfl,F7,News.sub N7 (by walk_at "I"),by rw[len_mk];omega,⟨rfl,.nil⟩,?T,?fin⟩
   case T=>
    intro g i v ys nw I oI C oC D m₂ h tk E' hi w32q w33q _ hoC hm2 F N off w34q;(refine Uc.ex2 w32q fun c t=>Uc.an2 fun hc e1q=>?_;clear w32q;subst e1q);(refine Uc.ah2 w33q fun e1q hR=>?_;clear w33q;subst e1q);(refine Uc.ah3 w34q fun d1 d2 d3=>?_;clear w34q)
    refine wpAny_tests_nil ?_
    simp only[if_true]
    walk_at "X"
    have hcl:W[i]? =some c:=by simpa using hc
    refine TurnC.mk nw ‹_› ‹_› (fun _ h=>h) off ⟨trivial,rfl,?_⟩
    rw[List.take_succ,hcl,List.map_append]
    exact StrsAre.append' hR (.cons _ _ .nil)
   case fin=>
    rintro D h tk ys nw ⟨rfl,hR⟩ F N o1
    rw[len_mk,List.take_of_length_le (Nat.le_refl _)] at hR
    walk_at "X"
    refine join_listW (ys:=W.map esc1) (News.isList N (.head _)) hR (Nat.zero_le _) (esc_w (by omega)) ?_
    intro t' k'
    rw[join_esc]
    walk_at "X"
    have e:∀l:List Nat,(l.map fun c=>[92,c]).flatten.length=2*l.length:=fun l=>by
     induction l with
     |nil=>rfl
     |cons c l ih=>simp only[List.map_cons,List.flatten_cons,List.length_append,ih,List.length_cons,List.length_nil];omega
    exact⟨((W.map fun c=>[92,c]).flatten,_),_,_,_,rfl,‹_›,(News.sub (b:=nw) ‹_› (by walk_at "I")),⟨rfl,rfl,trivial⟩,by dsimp only;rw[e];omega,(if_neg fun z=>h5 ((five n).mpr z)).symm⟩
 case g2=>
  refine fpLooR fun R t10=>?_
  intro u hR
  obtain⟨hR8,hsp⟩:=hR
  dsimp only at hR8 hsp ⊢
  have q10:((n:Int).fdiv 10).fmod 4=((n / 10%4:Nat):Int):=(congrArg (Int.fmod · 4) (fdiv_nat n 10)).trans (fmod_nat _ 4)
  have hw4:n / 10%4<4:=Nat.mod_lt _ (by decide)
  have hwi:Txt.item (ofString " \n\t\r") (((n:Int).fdiv 10).fmod 4)=⟨[wsS.getD (n / 10%4) 0].toArray⟩:=by
   rw[q10]
   exact(by decide+kernel:∀z<4,Txt.item (ofString " \n\t\r") ((z:Nat):Int)=⟨[wsS.getD z 0].toArray⟩) _ hw4
  refine' J.ret_c tb0 ?jp ?jc ?_
  case jp=>exact rfl
  case jc=>
   rw[hwi,q10,len_mk]
   refine⟨⟨⟨⟨by decide,by decide⟩,by decide,by decide⟩,by decide,?_,?_⟩,?_⟩
   ·show -((4:Nat):Int)<=_;omega
   ·show _<((4:Nat):Int);omega
   ·show R.length+1<=_;omega
  dsimp only[PV.den]
  rw[hwi,app2,hsp,hW]
  intro t h tk F N
  exact ret ⟨rfl,_,rfl⟩ F N
end
end Uc
end
section
namespace Uc
theorem wsGo_app {c:Nat}(h1:c≠32)(h2:c≠9)(r:List Nat):∀(l:List Nat) (s:WS),wsGo (l++c::r) s=wsGo l s
 | [],s=>by
  rw[List.nil_append,wsGo_cons,if_neg h1,if_neg h2]
  rfl
 |d::l,s=>by
  rw[List.cons_append,wsGo_cons,wsGo_cons,wsGo_app h1 h2 r l,wsGo_app h1 h2 r l]
noncomputable def leadsN:Nat->List (List Nat)
 |0=>[[]]
 |k+1=>[]::(leadsN k).flatMap fun l=>[32::l,9::l]
theorem leads_mem:∀(k:Nat) (l:List Nat),l.length<=k->(∀d∈l,d=32∨d=9)->l∈leadsN k
 |0,l,h,_=>by
  rw[List.eq_nil_of_length_eq_zero (Nat.le_zero.mp h)]
  exact .head _
 |k+1,[],_,_=>.head _
 |k+1,d::l,h,hd=>by
  refine .tail _ (List.mem_flatMap.mpr ⟨l,leads_mem k l (Nat.le_of_succ_le_succ h) fun x hx=>hd x (.tail _ hx),?_⟩)
  rcases hd d (.head _) with rfl|rfl
  ·exact .head _
  ·exact .tail _ (.head _)
noncomputable def wsL (l:List Nat):WS:=wsGo l ⟨[],0,0,0⟩
noncomputable def lessCol (l m:List Nat):Bool:=(List.range 5).all fun p=>decide (colGo (p+1) l 0<colGo (p+1) m 0)
theorem less_all:(leadsN 4).all (fun l=>(leadsN 4).all fun m=>lessB (wsL l) (wsL m)==lessCol l m)=true:=by decide+kernel
theorem indent_all:(leadsN 4).all (fun l=>(List.range 5).all fun p=>colOf (wsL l) (p+1)==((colGo (p+1) l 0:Nat):Int))=true:=by decide+kernel
theorem wsn_all:(leadsN 4).all (fun l=>(wsL l).n==l.length&&decide ((wsL l).b<=4)&&decide ((wsL l).cs.length<=5))=true:=by decide+kernel
theorem less_is {l m:List Nat}(hl:l.length<=4)(hm:m.length<=4)(dl:∀d∈l,d=32∨d=9)(dm:∀d∈m,d=32∨d=9):lessB (wsL l) (wsL m)=lessCol l m:=
 eq_of_beq (List.all_eq_true.mp (List.all_eq_true.mp less_all l (leads_mem 4 l hl dl)) m (leads_mem 4 m hm dm))
theorem indent_is {l:List Nat}{p:Nat}(hl:l.length<=4)(dl:∀d∈l,d=32∨d=9)(hp:p<5):colOf (wsL l) (p+1)=((colGo (p+1) l 0:Nat):Int):=
 eq_of_beq (List.all_eq_true.mp (List.all_eq_true.mp indent_all l (leads_mem 4 l hl dl)) p (List.mem_range.mpr hp))
end Uc
end
section
namespace Uc
noncomputable def outerM (xs:List Nat):List Nat->Nat->List Int->Int->Int->Int×Int
 | [],_,_,res,mm=>(res,mm)
 |c::cs,bi,row,_,mm=>
  let t:=inner c xs row ((bi:Int)*2) ((bi:Int)*2) BIG
  outerM xs cs (bi+1) t.1 t.2.1 (max mm t.2.2)
noncomputable def lev3M (a b:List Nat):Int×Int:=outerM a b 0 (row0 a.length) 0 (((b.length:Int)-a.length)*2)
noncomputable def lev2M (a b:List Nat):Int×Int:=
 if a.length=0∨b.length=0 then(2*((a.length:Int)+b.length), -1000)
 else if b.length<a.length then lev3M b a else lev3M a b
noncomputable def levM (a b:List Nat):Int×Int:=
 if a=b then(0, -1000) else
 let p:=sPre a b
 let q:=sPre p.1.reverse p.2.reverse
 lev2M q.1.reverse q.2.reverse
theorem outerM_mm (xs:List Nat):∀(cs:List Nat) (bi:Nat) (row:List Int) (res mm:Int),mm<=(outerM xs cs bi row res mm).2
 | [],_,_,_,_=>Int.le_refl _
 |c::cs,bi,row,_,mm=>by
  have:=outerM_mm xs cs (bi+1) (inner c xs row ((bi:Int)*2) ((bi:Int)*2) BIG).1 (inner c xs row ((bi:Int)*2) ((bi:Int)*2) BIG).2.1 (max mm (inner c xs row ((bi:Int)*2) ((bi:Int)*2) BIG).2.2)
  show mm<=(outerM xs cs (bi+1) _ _ _).2
  omega
theorem outer_M (xs:List Nat)(mx:Int):∀(cs:List Nat) (bi:Nat) (row:List Int) (res mm:Int),mm<=mx->outer xs mx cs bi row res=if (outerM xs cs bi row res mm).2<=mx then(outerM xs cs bi row res mm).1 else mx+1
 | [],_,_,_,mm,h=>by rw[if_pos (show(outerM xs [] _ _ _ mm).2<=mx from h)];rfl
 |c::cs,bi,row,r0,mm,h=>by
  show(if mx<(inner c xs row ((bi:Int)*2) ((bi:Int)*2) BIG).2.2 then mx+1 else outer xs mx cs (bi+1) _ _)=if (outerM xs cs (bi+1) _ _ _).2<=mx then(outerM xs cs (bi+1) _ _ _).1 else mx+1
  by_cases hc:mx<(inner c xs row ((bi:Int)*2) ((bi:Int)*2) BIG).2.2
  ·rw[if_pos hc,if_neg]
   have:=outerM_mm xs cs (bi+1) (inner c xs row ((bi:Int)*2) ((bi:Int)*2) BIG).1 (inner c xs row ((bi:Int)*2) ((bi:Int)*2) BIG).2.1 (max mm (inner c xs row ((bi:Int)*2) ((bi:Int)*2) BIG).2.2)
   omega
  ·rw[if_neg hc]
   exact outer_M xs mx cs (bi+1) _ _ _ (by omega)
theorem lev3_M (a b:List Nat)(mx:Int):lev3 a b mx=if (lev3M a b).2<=mx then(lev3M a b).1 else mx+1:=by
 unfold lev3 lev3M
 by_cases h:mx<((b.length:Int)-a.length)*2
 ·rw[if_pos h,if_neg]
  have:=outerM_mm a b 0 (row0 a.length) 0 (((b.length:Int)-a.length)*2)
  omega
 ·rw[if_neg h]
  exact outer_M a mx b 0 _ _ _ (by omega)
theorem sPre_len:∀(a b:List Nat),(sPre a b).1.length<=a.length/\(sPre a b).2.length<=b.length:=by
 intro a
 induction a with
 |nil=>intro b;cases b<;>exact⟨Nat.le_refl _,Nat.le_refl _⟩
 |cons c a ih=>
  intro b
  cases b with
  |nil=>exact⟨Nat.le_refl _,Nat.le_refl _⟩
  |cons d b=>
   have:=ih b
   unfold sPre
   split
   ·simp only[List.length_cons];omega
   ·exact⟨Nat.le_refl _,Nat.le_refl _⟩
theorem levL_M (a b:List Nat)(mx:Int)(ha:a.length<=40)(hb:b.length<=40)(hm: -1000<=mx):levL a b mx=if (levM a b).2<=mx then(levM a b).1 else mx+1:=by
 unfold levL levM
 by_cases h:a=b
 ·rw[if_pos h,if_pos h,if_pos hm]
 ·rw[if_neg h,if_neg h]
  have h1:=sPre_len a b
  have h2:=sPre_len (sPre a b).1.reverse (sPre a b).2.reverse
  simp only[List.length_reverse] at h2
  (try dsimp only)
  unfold lev2 lev2M
  simp only[List.length_reverse]
  by_cases h3:(sPre (sPre a b).1.reverse (sPre a b).2.reverse).1.length=0∨(sPre (sPre a b).1.reverse (sPre a b).2.reverse).2.length=0
  ·rw[if_pos h3,if_pos h3,if_pos hm]
  ·rw[if_neg h3,if_neg h3,if_neg (by omega)]
   split
   ·exact lev3_M _ _ _
   ·exact lev3_M _ _ _
end Uc
end
section
namespace Uc
noncomputable def ligs (k:Nat)(l P:List Nat)(T:Nat->List Nat->List (List Nat×Nat)):List (List Nat×Nat):=
 if P=[102,102,105] then(T k (l.drop 3)).map fun q=>(64259::q.1,6+q.2)
 else if P=[102,102] then(T k (l.drop 2)).map fun q=>(64256::q.1,4+q.2)
 else if P=[102,105] then(T k (l.drop 2)).map fun q=>(64257::q.1,4+q.2)
 else[]
noncomputable def allT:Nat->List Nat->List (List Nat×Nat)
 |0,_=>[([],0)]
 |_+1,[]=>[([],0)]
 |k+1,c::t=>ligs k (c::t) ((c::t).take 3) (fun _ l=>allT k l)++ligs k (c::t) ((c::t).take 2) (fun _ l=>allT k l)++(List.range 11).flatMap fun z=>(allT k t).map fun q=>((bases2.getD z 97+c-97)::q.1,min z 2+q.2)
theorem typ_mem:∀(k:Nat) (l:List Nat) (r:Nat),typ k l r∈allT k l
 |0,_,_=>.head _
 |_+1,[],_=>.head _
 |k+1,c::t,r=>by
  rw[typ_eq]
  have h3:r%3<3:=Nat.mod_lt _ (by decide)
  have two:∀P:List Nat,(c::t).take (3-r%3)=P->2<=P.length->P=(c::t).take 3∨P=(c::t).take 2:=fun P e h=>by
   rcases Nat.lt_or_ge (r%3) 1 with h0|h0
   ·exact .inl (by rw[<-e,Nat.lt_one_iff.mp h0])
   ·rcases Nat.lt_or_ge (r%3) 2 with h1|h1
    ·exact .inr (by rw[<-e,show r%3=1 from Nat.le_antisymm (Nat.le_of_lt_succ h1) h0])
    ·rw[<-e,List.length_take,show r%3=2 from Nat.le_antisymm (Nat.le_of_lt_succ h3) h1] at h
     exact absurd (Nat.le_trans h (Nat.min_le_left _ _)) (by decide)
  have key:∀(P:List Nat) (q:List Nat×Nat),(c::t).take (3-r%3)=P->2<=P.length->q∈ligs k (c::t) P (fun _ l=>allT k l)->q∈allT (k+1) (c::t):=fun P q e h hq=>by
   rcases two P e h with z|z
   ·rw[z] at hq;exact List.mem_append_left _ (List.mem_append_left _ hq)
   ·rw[z] at hq;exact List.mem_append_left _ (List.mem_append_right _ hq)
  by_cases e1:(c::t).take (3-r%3)=[102,102,105]
  ·rw[if_pos e1]
   exact key _ _ e1 (by decide) (List.mem_map.mpr ⟨_,typ_mem k _ _,rfl⟩)
  rw[if_neg e1]
  by_cases e2:(c::t).take (3-r%3)=[102,102]
  ·rw[if_pos e2]
   exact key _ _ e2 (by decide) (List.mem_map.mpr ⟨_,typ_mem k _ _,rfl⟩)
  rw[if_neg e2]
  by_cases e3:(c::t).take (3-r%3)=[102,105]
  ·rw[if_pos e3]
   exact key _ _ e3 (by decide) (List.mem_map.mpr ⟨_,typ_mem k _ _,rfl⟩)
  rw[if_neg e3]
  exact List.mem_append_right _ (List.mem_flatMap.mpr ⟨r / 3%11,List.mem_range.mpr (Nat.mod_lt _ (by decide)),List.mem_map.mpr ⟨_,typ_mem k t _,rfl⟩⟩)
noncomputable def pageN:List (List Nat):=[[102,102,105],[102,102],[102,105],[102],[105],[105,105]]
theorem price_all:pageN.all (fun x=>(allT x.length x).all fun q=>(levM q.1 x).1==(q.2:Int)&&decide ((levM q.1 x).2<=(q.2:Int))&&decide (q.1.length<=3)&&decide (q.2<=6))=true:=by decide+kernel
theorem price_is {x:List Nat}(hx:x∈pageN)(r:Nat){b:Int}(h1:(price2 x r:Int)-1<=b):levL (typed2 x r) x b=(price2 x r:Int):=by
 have h:=List.all_eq_true.mp (List.all_eq_true.mp price_all x hx) _ (typ_mem x.length x r)
 simp only[Bool.and_eq_true,beq_iff_eq,decide_eq_true_eq] at h
 have hl:x.length<=40:=by
  have:∀z∈pageN,z.length<=40:=by decide
  exact this x hx
 have e1:(levM (typed2 x r) x).1=(price2 x r:Int):=h.1.1.1
 have e2:(levM (typed2 x r) x).2<=(price2 x r:Int):=h.1.1.2
 have e3:(typed2 x r).length<=3:=h.1.2
 rw[levL_M _ _ _ (Nat.le_trans e3 (by decide)) hl (by omega)]
 split<;>omega
end Uc
end
section
namespace Uc
noncomputable def treesN:Nat->List (List Nat)
 |0=>[[6]]
 |k+1=>(treesN k).flatMap fun T=>(List.range (k+1)).map fun a=>T++[a]
noncomputable def kids (T:List Nat)(v:Nat)(off:List Nat):List Nat:=(List.range 6).filter fun u=>T.getD u 0==v&& !off.contains u
noncomputable def visit (T:List Nat):List Nat×List Nat->List Nat×List Nat
 |([],off)=>([],off)
 |(v::q,off)=>if (kids T v off).isEmpty then(q,off++[v]) else(q++[v],off)
noncomputable def visits (T:List Nat)(s:Nat):Nat->List Nat×List Nat
 |0=>((List.range 6).map fun k=>(s+k)%6,[])
 |i+1=>visit T (visits T s i)
noncomputable def behind (v:Nat)(off:List Nat):List Nat:=((List.range 5).map fun k=>(v+1+k)%6).filter fun u=> !off.contains u
noncomputable def okVisit (T:List Nat)(st:List Nat×List Nat):Bool:=match st with
 |([],off)=>off.length==6
 |(v::q,off)=>q==behind v off&&decide (v<6)&& !off.contains v&&off.all (fun u=>(kids T u off).isEmpty)
noncomputable def okRun (T:List Nat):Nat->List Nat×List Nat->Bool
 |0,st=>st.1.isEmpty
 |n+1,st=>okVisit T st&&okRun T n (visit T st)
theorem run_all:(treesN 5).all (fun T=>(List.range 6).all fun s=>okRun T 22 (visits T s 0))=true:=by decide+kernel
end Uc
end
section
namespace Uc
theorem sumZ_add {α:Type}(f g:α->Int):∀l:List α,(l.map fun x=>f x+g x).sum=(l.map f).sum+(l.map g).sum
 | []=>rfl
 |a::l=>by
  rw[List.map_cons,List.map_cons,List.map_cons,List.sum_cons,List.sum_cons,List.sum_cons,sumZ_add f g l]
  omega
theorem sumZ_mul {α:Type}(a:Int)(f:α->Int):∀l:List α,(l.map fun x=>a*f x).sum=a*(l.map f).sum
 | []=>by rw[List.map_nil,List.map_nil];exact(Int.mul_zero a).symm
 |b::l=>by rw[List.map_cons,List.map_cons,List.sum_cons,List.sum_cons,sumZ_mul a f l,Int.mul_add]
theorem sumZ_zero {α:Type}:∀l:List α,(l.map fun _=>(0:Int)).sum=0
 | []=>rfl
 |_::l=>by rw[List.map_cons,List.sum_cons,sumZ_zero l];rfl
theorem sumZ_swap {α β:Type}(f:α->β->Int)(J:List β):∀K:List α,(K.map fun k=>(J.map fun j=>f k j).sum).sum=(J.map fun j=>(K.map fun k=>f k j).sum).sum
 | []=>by rw[List.map_nil];exact(sumZ_zero J).symm
 |k::K=>by
  rw[List.map_cons,List.sum_cons,sumZ_swap f J K, <-sumZ_add]
  rfl
noncomputable def upsN (T:List Nat):Nat->Nat->List Nat
 |0,_=>[]
 |n+1,k=>k::(if k=0 then[] else upsN T n (T.getD k 0))
noncomputable def ups (T:List Nat)(k:Nat):List Nat:=upsN T 6 k
noncomputable def onWay (T:List Nat)(j k:Nat):Int:=if (ups T k).contains j then 1 else 0
noncomputable def meetN (T:List Nat)(way:List Nat):Nat->Nat->Nat
 |0,k=>k
 |n+1,k=>if way.contains k then k else meetN T way n (T.getD k 0)
noncomputable def meet (T:List Nat)(t k:Nat):Nat:=meetN T (ups T t) 6 k
theorem meet_all:(treesN 5).all (fun T=>(List.range 6).all fun t=>(List.range 6).all fun k=>(List.range 5).all fun j=>
  onWay T (j+1) (meet T t k)==onWay T (j+1) k*onWay T (j+1) t)=true:=by decide+kernel
noncomputable def heavyT (T:List Nat)(w:Nat->Int)(j:Nat):Int:=((List.range 6).map fun k=>onWay T j k*w k).sum
noncomputable def edge (T:List Nat)(c:Nat->Int)(j:Nat):Int:=c j-c (T.getD j 0)
theorem ups_all:(treesN 5).all (fun T=>(List.range 6).all fun k=>ups T k==k::(if k=0 then[] else ups T (T.getD k 0))&&decide (k=0∨T.getD k 0<k)&&(ups T k).all (fun j=>decide (j<=k))&&decide ((ups T k).Nodup))=true:=by decide+kernel
end Uc
end
section
namespace Uc
theorem way_step_all:(treesN 5).all (fun T=>(List.range 5).all fun k=>(List.range 5).all fun j=>onWay T (j+1) (k+1)==(if j=k then 1 else 0)+onWay T (j+1) (T.getD (k+1) 0))=true:=by decide+kernel
theorem way_zero_all:(treesN 5).all (fun T=>(List.range 5).all fun j=>onWay T (j+1) 0==0)=true:=by decide+kernel
theorem meet_lt_all:(treesN 5).all (fun T=>(List.range 6).all fun t=>(List.range 6).all fun k=>decide (meet T t k<6))=true:=by decide+kernel
theorem way_01 (T:List Nat)(j k:Nat):onWay T j k=0∨onWay T j k=1:=by
 unfold onWay
 split
 ·exact .inr rfl
 ·exact .inl rfl
theorem sum_pick (f:Nat->Int){k:Nat}(h:k<5):((List.range 5).map fun j=>(if j=k then(1:Int) else 0)*f j).sum=f k:=by
 have:k=0∨k=1∨k=2∨k=3∨k=4:=by omega
 rcases this with rfl|rfl|rfl|rfl|rfl<;>simp[List.range_succ]
theorem sum_congr {α:Type}{f g:α->Int}{l:List α}(h:∀x∈l,f x=g x):(l.map f).sum=(l.map g).sum:=by rw[List.map_congr_left h]
theorem lev_is {T:List Nat}(hT:T∈treesN 5)(c:Nat->Int)(h0:c 0=0):∀k,k<6->c k=((List.range 5).map fun j=>onWay T (j+1) k*edge T c (j+1)).sum:=by
 intro k
 induction k using Nat.strongRecOn with
 |ind k ih=>
  intro hk
  cases k with
  |zero=>
   rw[sum_congr (g:=fun _=>0) fun j hj=>?_,sumZ_zero,h0]
   rw[eq_of_beq (List.all_eq_true.mp (List.all_eq_true.mp way_zero_all T hT) j hj)]
   exact Int.zero_mul _
  |succ k=>
   have hk5:k<5:=by omega
   have hp:T.getD (k+1) 0<k+1:=by
    have h:=List.all_eq_true.mp (List.all_eq_true.mp ups_all T hT) (k+1) (List.mem_range.mpr hk)
    simp only[Bool.and_eq_true,decide_eq_true_eq] at h
    omega
   have e:=ih (T.getD (k+1) 0) hp (by omega)
   rw[sum_congr (g:=fun j=>(if j=k then(1:Int) else 0)*edge T c (j+1)+onWay T (j+1) (T.getD (k+1) 0)*edge T c (j+1)) fun j hj=>?_,sumZ_add,sum_pick (fun j=>edge T c (j+1)) hk5, <-e]
   ·unfold edge;omega
   ·rw[eq_of_beq (List.all_eq_true.mp (List.all_eq_true.mp (List.all_eq_true.mp way_step_all T hT) k (List.mem_range.mpr hk5)) j hj)]
    exact Int.add_mul _ _ _
theorem cost_is {T:List Nat}(hT:T∈treesN 5)(c:Nat->Int)(h0:c 0=0)(w:Nat->Int){t:Nat}(ht:t<6):
  ((List.range 6).map fun k=>w k*(c k+c t-2*c (meet T t k))).sum= 
   ((List.range 5).map fun j=>edge T c (j+1)*(if onWay T (j+1) t=1 then((List.range 6).map w).sum-heavyT T w (j+1) else heavyT T w (j+1))).sum:=by
 have e1:∀k∈List.range 6,w k*(c k+c t-2*c (meet T t k))=((List.range 5).map fun j=>w k*((onWay T (j+1) k+onWay T (j+1) t-2*(onWay T (j+1) k*onWay T (j+1) t))*edge T c (j+1))).sum:=by
  intro k hk
  have hk6:=List.mem_range.mp hk
  have hm:meet T t k<6:=of_decide_eq_true (List.all_eq_true.mp (List.all_eq_true.mp (List.all_eq_true.mp meet_lt_all T hT) t (List.mem_range.mpr ht)) k hk)
  rw[sumZ_mul]
  congr 1
  have em:c (meet T t k)=((List.range 5).map fun j=>(onWay T (j+1) k*onWay T (j+1) t)*edge T c (j+1)).sum:=by
   rw[lev_is hT c h0 _ hm]
   exact sum_congr fun j hj=>by rw[eq_of_beq (List.all_eq_true.mp (List.all_eq_true.mp (List.all_eq_true.mp (List.all_eq_true.mp meet_all T hT) t (List.mem_range.mpr ht)) k hk) j hj)]
  rw[em,lev_is hT c h0 k hk6,lev_is hT c h0 t ht, <-sumZ_add, <-sumZ_mul,Int.sub_eq_add_neg, <-Int.neg_one_mul, <-sumZ_mul, <-sumZ_add]
  exact sum_congr fun j _=>by
   generalize onWay T (j+1) k=a
   generalize onWay T (j+1) t=b
   generalize edge T c (j+1)=z
   rw[Int.sub_mul,Int.add_mul,Int.mul_assoc 2,Int.neg_one_mul]
   rfl
 rw[sum_congr e1,sumZ_swap]
 refine sum_congr fun j _=>?_
 have e2:∀k,w k*((onWay T (j+1) k+onWay T (j+1) t-2*(onWay T (j+1) k*onWay T (j+1) t))*edge T c (j+1))=edge T c (j+1)*((onWay T (j+1) k+onWay T (j+1) t-2*(onWay T (j+1) k*onWay T (j+1) t))*w k):=fun k=>by
  rw[Int.mul_comm (w k),Int.mul_comm _ (edge T c (j+1)),Int.mul_assoc]
 rw[sum_congr fun k _=>e2 k,sumZ_mul]
 congr 1
 rcases way_01 T (j+1) t with e|e
 ·rw[if_neg (by rw[e];decide)]
  exact sum_congr fun k _=>by rw[e,Int.mul_zero,Int.mul_zero,Int.add_zero,Int.sub_zero]
 ·rw[if_pos e]
  have e3:∀k,(onWay T (j+1) k+onWay T (j+1) t-2*(onWay T (j+1) k*onWay T (j+1) t))*w k=w k+ -1*(onWay T (j+1) k*w k):=fun k=>by
   rw[e,Int.mul_one]
   generalize onWay T (j+1) k=a
   rw[show a+1-2*a=1+ -1*a by omega,Int.add_mul,Int.one_mul,Int.mul_assoc]
  rw[sum_congr fun k _=>e3 k,sumZ_add,sumZ_mul]
  unfold heavyT
  omega
end Uc
end
section
namespace Uc
theorem below_all:(treesN 5).all (fun T=>(List.range 6).all fun t=>(List.range 6).all fun j=>onWay T j t==0||(List.range 6).all fun k=>decide (onWay T t k<=onWay T j k))=true:=by decide+kernel
theorem apart_all:(treesN 5).all (fun T=>(List.range 6).all fun t=>(List.range 6).all fun j=>onWay T j t==1||(List.range 6).any (fun c=>T.getD c 0==t&&(List.range 6).all fun k=>decide (onWay T j k<=onWay T c k))||(List.range 6).all fun k=>decide (onWay T j k+onWay T t k<=1))=true:=by decide+kernel
theorem sumZ_le {α:Type}{f g:α->Int}:∀{l:List α},(∀x∈l,f x<=g x)->(l.map f).sum<=(l.map g).sum
 | [],_=>Int.le_refl _
 |a::l,h=>by
  rw[List.map_cons,List.map_cons,List.sum_cons,List.sum_cons]
  exact Int.add_le_add (h a (.head _)) (sumZ_le fun x hx=>h x (.tail _ hx))
theorem heavy_le {T:List Nat}{w:Nat->Int}(hw:∀k,0<=w k){a b:Nat}(h:∀k∈List.range 6,onWay T a k<=onWay T b k):heavyT T w a<=heavyT T w b:=
 sumZ_le fun k hk=>Int.mul_le_mul_of_nonneg_right (h k hk) (hw k)
theorem min_is {T:List Nat}(hT:T∈treesN 5){w:Nat->Int}(hw:∀k,0<=w k){t j:Nat}(ht:t<6)(hj:j<6)(h1:((List.range 6).map w).sum<=2*heavyT T w t)(h2:∀c<6,T.getD c 0=t->2*heavyT T w c<((List.range 6).map w).sum):
  (if onWay T j t=1 then((List.range 6).map w).sum-heavyT T w j else heavyT T w j)=min (heavyT T w j) (((List.range 6).map w).sum-heavyT T w j):=by
 rcases way_01 T j t with e|e
 ·rw[if_neg (by rw[e];decide)]
  have h:=List.all_eq_true.mp (List.all_eq_true.mp (List.all_eq_true.mp apart_all T hT) t (List.mem_range.mpr ht)) j (List.mem_range.mpr hj)
  rw[e] at h
  have key:2*heavyT T w j<=((List.range 6).map w).sum:=by
   rcases Bool.or_eq_true_iff.mp h with h|h
   ·rcases Bool.or_eq_true_iff.mp h with h|h
    ·exact absurd h (by decide)
    ·obtain⟨c,hc,h⟩:=List.any_eq_true.mp h
     rw[Bool.and_eq_true,beq_iff_eq] at h
     have:=heavy_le hw fun k hk=>of_decide_eq_true (List.all_eq_true.mp h.2 k hk)
     have:=h2 c (List.mem_range.mp hc) h.1
     omega
   ·have q:heavyT T w j+heavyT T w t<=((List.range 6).map w).sum:=by
     unfold heavyT
     rw[<-sumZ_add]
     refine sumZ_le fun k hk=>?_
     have h3:=of_decide_eq_true (List.all_eq_true.mp h k hk)
     rw[<-Int.add_mul]
     exact Int.le_trans (Int.mul_le_mul_of_nonneg_right h3 (hw k)) (Int.le_of_eq (Int.one_mul _))
    omega
  omega
 ·rw[if_pos e]
  have h:=List.all_eq_true.mp (List.all_eq_true.mp (List.all_eq_true.mp below_all T hT) t (List.mem_range.mpr ht)) j (List.mem_range.mpr hj)
  rw[e] at h
  have:=heavy_le hw fun k hk=>of_decide_eq_true (List.all_eq_true.mp h k hk)
  omega
end Uc
end
section
namespace Uc
theorem way_split_all:(treesN 5).all (fun T=>(List.range 6).all fun v=>(List.range 6).all fun k=>onWay T v k==(if k=v then 1 else 0)+((List.range 6).map fun c=>if T.getD c 0=v then onWay T c k else 0).sum)=true:=by decide+kernel
theorem way_root_all:(treesN 5).all (fun T=>(List.range 6).all fun k=>onWay T 0 k==1)=true:=by decide+kernel
theorem sum_pick6 (f:Nat->Int){k:Nat}(h:k<6):((List.range 6).map fun j=>(if j=k then(1:Int) else 0)*f j).sum=f k:=by
 have:k=0∨k=1∨k=2∨k=3∨k=4∨k=5:=by omega
 rcases this with rfl|rfl|rfl|rfl|rfl|rfl<;>simp[List.range_succ]
theorem heavy_split {T:List Nat}(hT:T∈treesN 5)(w:Nat->Int){v:Nat}(hv:v<6):heavyT T w v=w v+((List.range 6).map fun c=>if T.getD c 0=v then heavyT T w c else 0).sum:=by
 have e1:∀k∈List.range 6,onWay T v k*w k=(if k=v then(1:Int) else 0)*w k+((List.range 6).map fun c=>if T.getD c 0=v then onWay T c k*w k else 0).sum:=fun k hk=>by
  rw[eq_of_beq (List.all_eq_true.mp (List.all_eq_true.mp (List.all_eq_true.mp way_split_all T hT) v (List.mem_range.mpr hv)) k hk),Int.add_mul]
  congr 1
  rw[Int.mul_comm, <-sumZ_mul]
  refine sum_congr fun c _=>?_
  split
  ·exact Int.mul_comm _ _
  ·exact Int.mul_zero _
 unfold heavyT
 rw[sum_congr e1,sumZ_add,sum_pick6 w hv,sumZ_swap]
 congr 1
 refine sum_congr fun c _=>?_
 by_cases h:T.getD c 0=v
 ·rw[if_pos h]
  exact sum_congr fun k _=>if_pos h
 ·rw[if_neg h,sum_congr (g:=fun _=>0) fun k _=>if_neg h]
  exact sumZ_zero _
theorem heavy_root {T:List Nat}(hT:T∈treesN 5)(w:Nat->Int):heavyT T w 0=((List.range 6).map w).sum:=
 sum_congr fun k hk=>by rw[eq_of_beq (List.all_eq_true.mp (List.all_eq_true.mp way_root_all T hT) k hk)];exact Int.one_mul _
end Uc
end
section
namespace Uc
theorem trees_mem (f:Nat->Nat)(h0:f 0=6):∀n,(∀k,0<k->k<=n->f k<k)->(List.range (n+1)).map f∈treesN n
 |0,_=>by
  show[f 0]∈[[6]]
  rw[h0]
  exact .head _
 |n+1,h=>by
  rw[List.range_succ,List.map_append]
  refine List.mem_flatMap.mpr ⟨_,trees_mem f h0 n fun k a b=>h k a (Nat.le_succ_of_le b),List.mem_map.mpr ⟨f (n+1),List.mem_range.mpr (h (n+1) (Nat.succ_pos _) (Nat.le_refl _)),rfl⟩⟩
noncomputable def popAll (L:Nat->Nat->Bool)(k:Nat):List Nat->List Nat
 | []=>[]
 |q::ps=>if L q k then q::ps else popAll L k ps
noncomputable def pileAt (L:Nat->Nat->Bool):Nat->List Nat
 |0=>[]
 |k+1=>k::popAll L k (pileAt L k)
noncomputable def aboveAt (L:Nat->Nat->Bool)(k:Nat):Nat:=(popAll L k (pileAt L k)).headD 6
theorem pop_sub (L:Nat->Nat->Bool)(k:Nat):∀ps:List Nat,∀x∈popAll L k ps,x∈ps
 | [],_,h=>h
 |q::ps,x,h=>by
  unfold popAll at h
  split at h
  ·exact h
  ·exact .tail _ (pop_sub L k ps x h)
set_option tactic.hygienic true in
theorem pop_zero (L:Nat->Nat->Bool)(k:Nat)(h0:L 0 k=true):∀ps:List Nat,0∈ps->0∈popAll L k ps
 |q::ps,h=>by
  unfold popAll
  split
  ·exact h
  ·rename_i hq
   rcases List.mem_cons.mp h with rfl|h
   ·exact absurd h0 hq
   ·exact pop_zero L k h0 ps h
theorem pile_lt (L:Nat->Nat->Bool):∀k,∀x∈pileAt L k,x<k
 |k+1,x,h=>by
  rcases List.mem_cons.mp h with rfl|h
  ·exact Nat.lt_succ_self _
  ·exact Nat.lt_succ_of_lt (pile_lt L k x (pop_sub L k _ x h))
theorem pile_zero (L:Nat->Nat->Bool){n:Nat}(h0:∀k,0<k->k<n->L 0 k=true):∀k,0<k->k<=n->0∈pileAt L k
 |k+1,_,hn=>by
  rcases Nat.eq_zero_or_pos k with rfl|hk
  ·exact .head _
  ·exact .tail _ (pop_zero L k (h0 k hk hn) _ (pile_zero L h0 k hk (Nat.le_of_succ_le hn)))
theorem above_lt (L:Nat->Nat->Bool){n:Nat}(h0:∀k,0<k->k<n->L 0 k=true){k:Nat}(hk:0<k)(hn:k<n):aboveAt L k<k:=by
 have hz:=pop_zero L k (h0 k hk hn) _ (pile_zero L h0 k hk (Nat.le_of_lt hn))
 unfold aboveAt
 cases e:popAll L k (pileAt L k) with
 |nil=>rw[e] at hz;cases hz
 |cons q ps=>exact pile_lt L k q (pop_sub L k _ q (by rw[e];exact .head _))
theorem tree_in (L:Nat->Nat->Bool)(h0:∀k,0<k->k<6->L 0 k=true):(List.range 6).map (aboveAt L)∈treesN 5:=
 trees_mem _ rfl 5 fun _ a b=>above_lt L h0 a (Nat.lt_succ_of_le b)
end Uc
end
section
namespace Uc
noncomputable def gath (T:List Nat)(w:Nat->Int)(off:List Nat)(u:Nat):Int:=w u+((List.range 6).map fun c=>if T.getD c 0=u/\c∈off then heavyT T w c else 0).sum
theorem gath_nil (T:List Nat)(w:Nat->Int)(u:Nat):gath T w [] u=w u:=by
 unfold gath
 rw[sum_congr (g:=fun _=>0) fun c _=>if_neg fun h=>absurd h.2 List.not_mem_nil,sumZ_zero]
 exact Int.add_zero _
theorem gath_leaf {T:List Nat}(hT:T∈treesN 5)(w:Nat->Int){v:Nat}(hv:v<6){off:List Nat}(hk:(kids T v off).isEmpty=true):gath T w off v=heavyT T w v:=by
 rw[heavy_split hT w hv]
 unfold gath
 congr 1
 refine sum_congr fun c hc=>?_
 by_cases h:T.getD c 0=v
 ·rw[if_pos h]
  by_cases h':c∈off
  ·rw[if_pos ⟨h,h'⟩]
  ·have:c∈kids T v off:=List.mem_filter.mpr ⟨hc,by show(T.getD c 0==v&& !off.contains c)=true;rw[h];simp[h']⟩
   rw[List.isEmpty_iff.mp hk] at this
   cases this
 ·rw[if_neg h,if_neg fun z=>h z.1]
theorem gath_off {T:List Nat}(w:Nat->Int){v:Nat}(hv:v<6){off:List Nat}(hn:v ∉ off)(u:Nat):gath T w (off++[v]) u=gath T w off u+(if T.getD v 0=u then heavyT T w v else 0):=by
 unfold gath
 rw[Int.add_assoc]
 congr 1
 have e:∀c∈List.range 6,(if T.getD c 0=u/\c∈off++[v] then heavyT T w c else 0)=(if T.getD c 0=u/\c∈off then heavyT T w c else 0)+(if c=v then(1:Int) else 0)*(if T.getD c 0=u then heavyT T w c else 0):=fun c _=>by
  by_cases h:c=v
  ·subst h
   rw[if_neg (fun z:T.getD c 0=u/\c∈off=>hn z.2),if_pos rfl,Int.one_mul,Int.zero_add]
   by_cases h':T.getD c 0=u
   ·rw[if_pos ⟨h',List.mem_append_right _ (.head _)⟩,if_pos h']
   ·rw[if_neg fun z=>h' z.1,if_neg h']
  ·rw[if_neg h,Int.zero_mul,Int.add_zero]
   have:c∈off++[v]↔c∈off:=by simp[h]
   simp only[this]
 rw[sum_congr e,sumZ_add,sum_pick6 (fun c=>if T.getD c 0=u then heavyT T w c else 0) hv]
theorem run_ok {T:List Nat}:∀(n:Nat) (st:List Nat×List Nat),okRun T n st=true->∀i<n,okVisit T (Nat.repeat (visit T) i st)=true
 |n+1,st,h,i,hi=>by
  obtain⟨h1,h2⟩:=Bool.and_eq_true_iff.mp h
  cases i with
  |zero=>exact h1
  |succ i=>
   have e:Nat.repeat (visit T) (i+1) st=Nat.repeat (visit T) i (visit T st):=by
    induction i with
    |zero=>rfl
    |succ i ih=>exact congrArg (visit T) (ih (by omega))
   rw[e]
   exact run_ok n _ h2 i (Nat.lt_of_succ_lt_succ hi)
end Uc
end
section
namespace Uc
noncomputable def carry (T:List Nat)(w:Nat->Int):Nat->Nat->Int
 |0,u=>w u
 |i+1,u=>carry T w i u+(if T.getD (5-i) 0=u then carry T w i (5-i) else 0)
noncomputable def offs:Nat->List Nat
 |0=>[]
 |i+1=>offs i++[5-i]
theorem carry_all:(treesN 5).all (fun T=>((List.range 5).all fun i=>(kids T (5-i) (offs i)).isEmpty&& !(offs i).contains (5-i))&&(List.range 6).all fun u=>(kids T u (offs 5)).isEmpty)=true:=by decide+kernel
theorem carry_is {T:List Nat}(hT:T∈treesN 5)(w:Nat->Int):∀i,i<=5->∀u,carry T w i u=gath T w (offs i) u
 |0,_,u=>(gath_nil T w u).symm
 |i+1,h,u=>by
  have q:=List.all_eq_true.mp (Bool.and_eq_true_iff.mp (List.all_eq_true.mp carry_all T hT)).1 i (List.mem_range.mpr h)
  obtain⟨q1,q2⟩:=Bool.and_eq_true_iff.mp q
  have hi:=carry_is hT w i (Nat.le_of_succ_le h)
  show carry T w i u+(if T.getD (5-i) 0=u then carry T w i (5-i) else 0)=gath T w (offs i++[5-i]) u
  rw[gath_off w (by omega) (by simpa using q2) u,hi,hi,gath_leaf hT w (by omega) q1]
theorem page_heavy {T:List Nat}(hT:T∈treesN 5)(w:Nat->Int){u:Nat}(hu:u<6):carry T w 5 u=heavyT T w u:=by
 rw[carry_is hT w 5 (Nat.le_refl _) u]
 exact gath_leaf hT w hu (List.all_eq_true.mp (Bool.and_eq_true_iff.mp (List.all_eq_true.mp carry_all T hT)).2 u (List.mem_range.mpr hu))
end Uc
end
section
namespace Uc
noncomputable def chars2:List (Nat×List Nat):=((List.range 11).flatMap fun z=>[(bases2.getD z 97+102-97,[102]),(bases2.getD z 97+105-97,[105])])++[(64259,[102,102,105]),(64256,[102,102]),(64257,[102,105]),(32,[32]),(9,[9])]
theorem chars2_ok:chars2.all (fun t=> !isB1 (t.1:Int)&&decide (mapB3 t.1=(⟨t.2.toArray⟩:Str))&&decide (t.1<1114112)&&t.1 !=34&&t.1 !=92&&t.1 !=0)=true:=by decide+kernel
theorem signs2_ok:(List.range 27).all (fun n=>isB1 (signOf n:Int)&&decide (signOf n<1114112)&&signOf n !=34&&signOf n !=92&&signOf n !=32&&signOf n !=9&&signOf n !=10&&signOf n !=13)=true:=by decide+kernel
end Uc
end
section
namespace Uc
noncomputable def foldC (c:Nat):List Nat:=(chars2.lookup c).getD []
theorem fold_all:pageN.all (fun x=>(allT x.length x).all fun q=>q.1.flatMap foldC==x&&q.1.all fun c=>(chars2.lookup c).isSome&&c !=32&&c !=9)=true:=by decide+kernel
theorem fold_is {x:List Nat}(hx:x∈pageN)(r:Nat):(typed2 x r).flatMap foldC=x/\∀c∈typed2 x r,(chars2.lookup c).isSome=true/\c≠32/\c≠9:=by
 have h:=List.all_eq_true.mp (List.all_eq_true.mp fold_all x hx) _ (typ_mem x.length x r)
 rw[Bool.and_eq_true,beq_iff_eq] at h
 refine⟨h.1,fun c hc=>?_⟩
 have:=List.all_eq_true.mp h.2 c hc
 simp only[Bool.and_eq_true,bne_iff_ne] at this
 exact⟨this.1.1,this.1.2,this.2⟩
theorem char_b3 {c:Nat}(h:(chars2.lookup c).isSome=true):isB1 (c:Int)=false/\mapB3 c=(⟨(foldC c).toArray⟩:Str)/\c<1114112/\c≠34/\c≠92/\c≠0:=by
 obtain⟨v,hv⟩:=Option.isSome_iff_exists.mp h
 have q:=List.all_eq_true.mp chars2_ok _ (lookup_in hv)
 simp only[Bool.and_eq_true,Bool.not_eq_true',decide_eq_true_eq,bne_iff_ne] at q
 exact⟨q.1.1.1.1.1,by rw[q.1.1.1.1.2,foldC,hv];rfl,q.1.1.1.2,q.1.1.2,q.1.2,q.2⟩
end Uc
end
section
namespace Uc
noncomputable def lessAt (leads:List (List Nat))(q k:Nat):Bool:=lessCol (leads.getD q []) (leads.getD k [])
noncomputable def pgRow (l:List Nat):List Int:=(List.range 5).map fun p=>((colGo (p+1) l 0:Nat):Int)
noncomputable def pgCols (leads:List (List Nat)):List (List Int):=leads.map pgRow
noncomputable def overZ (L:Nat->Nat->Bool)(k:Nat):Int:=match popAll L k (pileAt L k) with
 | []=> -1
 |q::_=>(q:Int)
noncomputable def pileZ (ps:List Nat):List Int:=ps.reverse.map fun(n:Nat)=>(n:Int)
theorem pileZ_cons (q:Nat)(ps:List Nat):pileZ (q::ps)=pileZ ps++[(q:Int)]:=by
 unfold pileZ
 rw[List.reverse_cons,List.map_append]
 rfl
theorem pileZ_last (q:Nat)(ps:List Nat):(pileZ (q::ps)).getLastD 0=(q:Int):=by
 rw[pileZ_cons,List.getLastD_eq_getLast?,List.getLast?_append]
 rfl
theorem pileZ_nil {ps:List Nat}:pileZ ps=[]↔ps=[]:=by
 unfold pileZ
 rw[List.map_eq_nil_iff,List.reverse_eq_nil_iff]
theorem pop_eq (L:Nat->Nat->Bool)(k:Nat){ps:List Nat}(h:ps=[]∨L (ps.headD 0) k=true):popAll L k ps=ps:=by
 cases ps with
 |nil=>rfl
 |cons q ps=>
  have h:L q k=true:=h.resolve_left (by simp)
  unfold popAll
  rw[if_pos h]
theorem pop_ne (L:Nat->Nat->Bool)(k q:Nat)(ps:List Nat)(h:L q k=false):popAll L k (q::ps)=popAll L k ps:=by
 show(if L q k then _ else _)=_
 rw[h]
 exact if_neg (by decide)
theorem pgRow_at (l:List Nat){j:Nat}(h:j<5):(pgRow l).getD j 0=((colGo (j+1) l 0:Nat):Int):=by
 unfold pgRow
 rw[List.getD_eq_getElem?_getD,List.getElem?_map,List.getElem?_range h]
 rfl
theorem pgCols_at (leads:List (List Nat)){q:Nat}(h:q<leads.length):(pgCols leads).getD q []=pgRow (leads.getD q []):=by
 unfold pgCols
 rw[List.getD_eq_getElem?_getD,List.getElem?_map,List.getD_eq_getElem?_getD,List.getElem?_eq_getElem h]
 rfl
theorem less_nil {l m:List Nat}:((List.range 5).filter fun j=>decide (colGo (j+1) m 0<=colGo (j+1) l 0))≠[]↔lessCol l m=false:=by
 unfold lessCol
 rw[Ne,List.filter_eq_nil_iff,List.all_eq_false]
 simp only[decide_eq_true_eq,Nat.not_lt]
 constructor
 ·intro h
  refine Classical.byContradiction fun z=>h fun a ha hle=>z ⟨a,ha,hle⟩
 ·rintro⟨a,ha,hle⟩ h
  exact h a ha hle
end Uc
namespace Uc
theorem pileZ_len (ps:List Nat):(pileZ ps).length=ps.length:=by
 unfold pileZ
 rw[List.length_map,List.length_reverse]
theorem pop_len (L:Nat->Nat->Bool)(k:Nat):∀ps:List Nat,(popAll L k ps).length<=ps.length
 | []=>Nat.le_refl _
 |q::ps=>by
  show(if L q k then _ else _:List Nat).length<=_
  cases L q k with
  |true=>rw[if_pos rfl];exact Nat.le_refl _
  |false=>rw[if_neg (by decide)];exact Nat.le_succ_of_le (pop_len L k ps)
theorem pile_len (L:Nat->Nat->Bool):∀k,(pileAt L k).length<=k
 |0=>Nat.le_refl _
 |k+1=>Nat.succ_le_succ (Nat.le_trans (pop_len L k _) (pile_len L k))
theorem intsAre_dl {vs:List Value}{ns:List Int}(h:IntsAre vs ns):IntsAre vs.dropLast ns.dropLast:=by
 induction h with
 |nil=>exact .nil
 |cons n t h ih=>
  cases h with
  |nil=>exact .nil
  |cons n' t' h'=>exact .cons _ _ ih
theorem pileZ_dl (q:Nat)(ps:List Nat):(pileZ (q::ps)).dropLast=pileZ ps:=by
 rw[pileZ_cons,List.dropLast_concat]
theorem overZ_is (L:Nat->Nat->Bool)(k:Nat)(zs:List Nat)(h:popAll L k (pileAt L k)=zs)(d:Decidable (¬ pileZ zs=[])):(@ite Int (¬ pileZ zs=[]) d ((pileZ zs).getLastD 0) (-1))=overZ L k:=by
 unfold overZ
 rw[h]
 cases zs with
 |nil=>exact if_neg fun z=>z rfl
 |cons q ps=>rw[if_pos (by rw[pileZ_nil];simp),pileZ_last]
theorem overZ_at (L:Nat->Nat->Bool){k:Nat}(h:0∈popAll L k (pileAt L k)):overZ L k=((aboveAt L k:Nat):Int):=by
 unfold overZ aboveAt
 cases e:popAll L k (pileAt L k) with
 |nil=>rw[e] at h;cases h
 |cons q ps=>rfl
theorem carry_set (T:List Nat)(w:Nat->Int){i a:Nat}(ha:T.getD (5-i) 0=a)(h6:a<6):((List.range 6).map (carry T w i)).set a (carry T w i a+carry T w i (5-i))=(List.range 6).map (carry T w (i+1)):=by
 refine List.ext_getElem (by simp) fun j h1 h2=>?_
 rw[List.getElem_set,List.getElem_map,List.getElem_map,List.getElem_range]
 show _=carry T w i j+(if T.getD (5-i) 0=j then carry T w i (5-i) else 0)
 rw[ha]
 by_cases e:a=j
 ·rw[if_pos e,if_pos e,e]
 ·rw[if_neg e,if_neg e,Int.add_zero]
theorem rng_at (f:Nat->Int){k:Nat}(h:k<6):((List.range 6).map f).getD k 0=f k:=by
 rw[List.getD_eq_getElem?_getD,List.getElem?_map,List.getElem?_range h]
 rfl
theorem rngN_at (f:Nat->Nat){k:Nat}(h:k<6):((List.range 6).map f).getD k 0=f k:=by
 rw[List.getD_eq_getElem?_getD,List.getElem?_map,List.getElem?_range h]
 rfl
theorem list_rng (l:List Int)(h:l.length=6):(List.range 6).map (fun k=>l.getD k 0)=l:=by
 refine List.ext_getElem (by simp[h]) fun j h1 h2=>?_
 rw[List.getElem_map,List.getElem_range,List.getD_eq_getElem?_getD,List.getElem?_eq_getElem h2]
 rfl
end Uc
end
section
namespace Uc
open PyProof.Rows.LCg
noncomputable abbrev celO (o:Obj)(v:Option Value):Obj:={ o with data:=.cell v }
theorem celO_is {o:Obj}{v:Option Value}(h:o.data=.cell v):o=celO o v:=by
 cases o
 cases h
 rfl
noncomputable abbrev Nd (nw:Led):Prop:=(nw.map (·.1)).Nodup
theorem Nd.cons {a:Addr}{o:Obj}{nw:Led}(h:∀p∈nw,p.1≠a)(nd:Nd nw):Nd ((a,o)::nw):=
 List.nodup_cons.mpr ⟨fun hm=>by obtain⟨p,hp,e⟩:=List.mem_map.mp hm;exact h p hp e,nd⟩
theorem Nd.snoc {a:Addr}{o:Obj}{nw:Led}(nd:Nd nw)(h:∀p∈nw,p.1≠a):Nd (nw++[(a,o)]):=by
 show((nw++[(a,o)]).map _).Nodup
 rw[List.map_append,List.nodup_append]
 refine⟨nd,by simp,fun x hx y hy e=>?_⟩
 obtain⟨p,hp,rfl⟩:=List.mem_map.mp hx
 rw[List.map_singleton,List.mem_singleton] at hy
 exact h p hp (e.trans hy)
theorem Nd.mid {a r:Led}{x:Addr×Obj}(h:Nd (a++x::r)):Nd (x::(a++r)):=by
 unfold Nd at h ⊢
 rw[List.map_append,List.map_cons] at h
 rw[List.map_cons,List.map_append]
 exact List.perm_middle.nodup_iff.mp h
theorem Nd.front {A B r:Led}(h:Nd (A++(B++r))):Nd (B++(A++r)):=((List.perm_append_comm_assoc A B r).map _).nodup_iff.mp h
theorem Nd.tail {x:Addr×Obj}{r:Led}(h:Nd (x::r)):Nd r:=(List.nodup_cons.mp h).2
theorem RowsAre.snoc {nw:Led}{vs:List Value}{nss:List (List Int)}{a:Addr}{ws:List Value}{n:Nat}{ns:List Int}(r:RowsAre nw vs nss)(hm:(a,listOf ws.toArray n)∈nw)(hI:IntsAre ws ns):RowsAre nw (vs++[.ref a]) (nss++[ns]):=by
 induction r with
 |nil=>exact .cons hm hI .nil
 |cons h1 h2 _ ih=>exact .cons h1 h2 ih
theorem strs_at {vs:List Value}{xs:List Str}(h:StrsAre vs xs){i:Nat}{v:Value}(hv:vs[i]? =some v):∃x t,v=.str x t/\xs[i]? =some x:=by
 induction h generalizing i with
 |nil=>cases hv
 |cons x t _ ih=>
  cases i with
  |zero=>cases hv;exact⟨x,t,rfl,rfl⟩
  |succ i=>exact ih hv
theorem Nd.sub {nw nw':Led}(h:nw'.Sublist nw)(nd:Nd nw):Nd nw':=List.Nodup.sublist (h.map _) nd
theorem setK_ne:∀{nw:Led} {k:Nat} {a:Addr} {o o':Obj},Nd nw->nw[k]? =some (a,o)->∀p∈nw.set k (a,o'),p=(a,o')∨(p∈nw/\p.1≠a)
 | [],_,_,_,_,_,hk,_,_=>by cases hk
 |q::nw,0,a,o,o',nd,hk,p,hp=>by
  cases hk
  rcases List.mem_cons.mp hp with rfl|hp
  ·exact .inl rfl
  ·exact .inr ⟨.tail _ hp,fun e=>(List.nodup_cons.mp nd).1 (List.mem_map.mpr ⟨p,hp,e⟩)⟩
 |q::nw,k+1,a,o,o',nd,hk,p,hp=>by
  rcases List.mem_cons.mp hp with rfl|hp
  ·refine .inr ⟨.head _,fun e=>(List.nodup_cons.mp nd).1 (List.mem_map.mpr ⟨(a,o),List.mem_of_getElem? hk,e.symm⟩)⟩
  ·rcases setK_ne (List.nodup_cons.mp nd).2 hk p hp with h|h
   ·exact .inl h
   ·exact .inr ⟨.tail _ h.1,h.2⟩
theorem setK_addr:∀{nw:Led} {k:Nat} {a:Addr} {o o':Obj},nw[k]? =some (a,o)->(nw.set k (a,o')).map (·.1)=nw.map (·.1)
 | [],_,_,_,_,hk=>by cases hk
 |q::nw,0,a,o,o',hk=>by cases hk;rfl
 |q::nw,k+1,a,o,o',hk=>congrArg (q.1::·) (setK_addr (nw:=nw) hk)
theorem Nd.set {nw:Led}{k:Nat}{a:Addr}{o o':Obj}(nd:Nd nw)(hk:nw[k]? =some (a,o)):Nd (nw.set k (a,o')):=by
 show((nw.set k (a,o')).map _).Nodup
 rw[setK_addr hk]
 exact nd
theorem newsK {h₀ h h':Heap}{L:Addr}{nw:Led}{k:Nat}{a:Addr}{o o':Obj}(N:News h₀ L h nw)(nd:Nd nw)(hk:nw[k]? =some (a,o))(hs:Heap.SameBut a h h')(ho:h'.get? a=some o'):News h₀ L h' (nw.set k (a,o')):=fun p hp=>by
 have z:=N _ (List.mem_of_getElem? hk)
 rcases setK_ne nd hk p hp with rfl|⟨hm,hne⟩
 ·exact⟨ho,z.2⟩
 ·exact⟨hs.extBut _ _ hne (N p hm).1,(N p hm).2⟩
section
variable {M:Model}{A:Around}{E:Value->Shared->Prop}{s:Shared}{h₀:Heap}{L:Addr}{m:Str->Option Value}{nw:Led}{env:Env}
theorem storeK {x:Str}{v:Value}{k:Nat}{c:Addr}{o:Obj}{v₀:Option Value}{Q:Unit->Shared->Prop}(F:Fr h₀ L s.heap m)(N:News h₀ L s.heap nw)(nd:Nd nw)(hk:nw[k]? =some (c,celO o v₀))(hf:env.scope.kind=.function)(hx:env.kindOf x=some .cell)(hc:env.cells.lookup x=some c)
  (h:∀h',Fr h₀ L h' m->News h₀ L h' (nw.set k (c,celO o (some v)))->Q () { s with heap:=h' }):wpAny M A (storeName env x v) Q E s:=by
 have z:=N _ (List.mem_of_getElem? hk)
 unfold storeName
 simp only[hx,hf]
 refine wpAny_bind (wpAny_cellOf hc ?_)
 unfold cellSet
 refine wpAny_bind (wpAny_load z.1 ?_)
 show wpAny M A (update c fun o=>{ o with data:=.cell (some v) }) Q E s
 have e:=Heap.get?_update_self (fun o=>{ o with data:=.cell (some v) }) z.1 rfl
 exact wpAny_update z.1 (h _ (F.change (Heap.SameBut.update ..) z.2.1 z.2.2) (newsK N nd hk (Heap.SameBut.update ..) e))
end
section
variable {C:Cx}{m:Str->Option Value}{nw:Led}{tb:Tb}{rest:List Stmt}{ks:List (List Stmt)}{pos:Pos}
theorem J.sub {st:List Stmt}{nw':Led}(hs:∀p∈nw',p∈nw)(h:J C m nw' st ks):J C m nw st ks:=fun h' tk F N=>h h' tk F (News.sub N hs)
noncomputable def EvTo (C:Cx)(m:Str->Option Value)(nw:Led)(e:Expr)(v:PV):Prop:=∀Q:Value->Shared->Prop,VK C m nw Q v->At C m nw fun s=>wpAny C.M C.A (eval e C.env) Q C.E s
noncomputable def BTo (C:Cx)(m:Str->Option Value)(nw:Led)(e:Expr)(p:Prop):Prop:=∀Q:Bool->Shared->Prop,BK C m nw Q p->At C m nw fun s=>wpAny C.M C.A (isTrue e C.env (eval e C.env)) Q C.E s
theorem EvTo.of {e:Expr}{v:PV}(ht:TbOk C m nw tb)(h:(C.pV m tb e).holds fun w=>w=v):EvTo C m nw e v:=fun Q q=>(pv_all ht 30).1 e Q (Rs.mono (fun w ew=>ew▸q) h)
theorem BTo.of {e:Expr}{p:Prop}(ht:TbOk C m nw tb)(h:(C.pB m tb e).holds fun w=>w↔p):BTo C m nw e p:=fun Q q=>(pv_all ht 30).2.1 e Q (Bs.mono (fun w ew b hb=>q b (hb.trans ew)) h)
theorem NmIs.cellK {x:Str}{v:Value}{c:Addr}{o:Obj}(k:Nat)(hc:C.env.cells.lookup x=some c)(hk:nw[k]? =some (c,celO o (some v)))(hx:C.env.kindOf x=some .cell)(hd:(x==ofString "__debug__")=false):NmIs C m nw x v:=
 .cell hc (List.mem_of_getElem? hk) rfl hx hd
theorem J.asgK {x:Str}{e:Expr}{p:Pos}{c:Addr}{o:Obj}{v₀:Option Value}(k:Nat)(ht:TbOk C m nw tb)(nd:Nd nw)(hc:C.env.cells.lookup x=some c)(hk:nw[k]? =some (c,celO o v₀))(hx:C.env.kindOf x=some .cell)(hs:swapsWith e (some (.Name x p)) pos.line C.env=pure false)
  (h:(C.pV m tb e).holds fun v=>∀t,J C m (nw.set k (c,celO o (some (v.den t)))) rest ks):J C m nw (.Assign [.Name x p] e pos::rest) ks:=
 J.step fun h0 tk F N=>wpAny_Assign_Name ((pv_all ht 30).1 e _ (Rs.mono (fun v q t h1 tk1 F1 N1=>storeK (s:=C.sg h1 tk1) F1 N1 nd hk C.hk hx hc fun h2 F2 N2=>q t h2 tk1 F2 N2) h) h0 tk F N) hs
theorem J.appK {x:Str}{e:Expr}{px pa pc:Pos}{D:Addr}{vs:List Value}{n:Nat}(k:Nat)(ht:TbOk C m nw tb)(nd:Nd nw)(hk:nw[k]? =some (D,listOf vs.toArray n))(hx:pNm C.env m tb x=some (.ref D))(he:plainArg e=true)(hl:vs.length<=16777216)
  (hi:interactive C.env=false) (hs:swapsWith (.Call (.Attribute (.Name x px) "append" pa) [e] [] pc) none pos.line C.env=pure false)
  {pl:Sem Bool} (hm:eval (.Call (.Attribute (.Name x px) "append" pa) [e] [] pc) C.env=(do
   let ov<-eval (.Name x px) C.env
   standAt pa.atName
   let (f,first)<-holding [ov] (getMethod ov "append" pl)
   callWith pc f first (backTo pc (starEach [e] C.env)) []))
  {v:PV} (hb:EvTo C m nw e v) (h:∀t,J C m (nw.set k (D,listOf (vs++[v.den t]).toArray (n+1))) rest ks):
  J C m nw (.Expr (.Call (.Attribute (.Name x px) "append" pa) [e] [] pc) pos::rest) ks:=by
 refine J.step fun h0 tk F N=>wpAny_Expr_any (MethodCall_ (nm_ok ht hx px _ (fun h1 tk1 F1 N1=>?_) h0 tk F N) hm) hi hs
 refine PySem.Calls.getMethod_list_append (s:=C.sg h1 tk1) (N1.get (List.mem_of_getElem? hk)) rfl rfl ?_
 refine callWith_method1 (args_cons ?_ (star1 he)) (star1 he)
 refine hb _ (fun t h2 tk2 F2 N2=>?_) _ _ F1 N1
 have z:=N2 _ (List.mem_of_getElem? hk)
 refine args_nil (append_at (s:=C.sg h2 tk2) (hsz:=?_) z.1 fun h3 hs3 hD3=>h t h3 tk2 (F2.change hs3 z.2.1 z.2.2) (newsK N2 nd hk hs3 (by rw[<-List.push_toArray];exact hD3)))
 show vs.toArray.size<=sizeLine
 rw[List.size_toArray]
 exact hl
theorem J.popK {x:Str}{px pa pc:Pos}{D:Addr}{vs:List Value}{n:Nat}(k:Nat)(ht:TbOk C m nw tb)(nd:Nd nw)(hk:nw[k]? =some (D,listOf vs.toArray n))(hx:pNm C.env m tb x=some (.ref D))(hl:vs.length<=16777216)(h0:1<=vs.length)
  (hi:interactive C.env=false) (hs:swapsWith (.Call (.Attribute (.Name x px) "pop" pa) [] [] pc) none pos.line C.env=pure false)
  {pl:Sem Bool} (hm:eval (.Call (.Attribute (.Name x px) "pop" pa) [] [] pc) C.env=(do
   let ov<-eval (.Name x px) C.env
   standAt pa.atName
   let (f,first)<-holding [ov] (getMethod ov "pop" pl)
   callWith pc f first (backTo pc (starEach [] C.env)) []))
  (h:J C m (nw.set k (D,listOf vs.dropLast.toArray (n+1))) rest ks):J C m nw (.Expr (.Call (.Attribute (.Name x px) "pop" pa) [] [] pc) pos::rest) ks:=by
 refine J.step fun h0' tk F N=>wpAny_Expr_any (MethodCall_ (nm_ok ht hx px _ (fun h1 tk1 F1 N1=>?_) h0' tk F N) hm) hi hs
 have z:=N1 _ (List.mem_of_getElem? hk)
 refine PyProof.Rows.Copied.getMethod_pop_at (s:=C.sg h1 tk1) z.1 rfl rfl ?_
 refine callWith_method0 ?_
 have hy:vs.toArray[vs.toArray.size-1]? =some (vs.getLast (List.ne_nil_of_length_pos h0)):=by
  rw[List.size_toArray,List.getElem?_toArray, <-List.getLast?_eq_getElem?]
  exact List.getLast?_eq_some_getLast _
 refine PyProof.Rows.Copied.pop_at (s:=C.sg h1 tk1) (hsz:=?sz) z.1 hy fun h3 hs3 hD3=>h h3 tk1 (F1.change hs3 z.2.1 z.2.2) (newsK N1 nd hk hs3 ?d3)
 case sz=>
  show vs.toArray.size<=sizeLine
  rw[List.size_toArray]
  exact hl
 case d3=>
  rw[hD3]
  simp
end
end Uc
end
section
namespace Uc
open PyProof.Rows.LCg
theorem VsDen.snoc {ps:List PV}{vs:List Value}{p:PV}{v:Value}(h:VsDen ps vs)(hv:∃t,v=p.den t):VsDen (ps++[p]) (vs++[v]):=by
 induction h with
 |nil=>exact .cons hv .nil
 |cons a _ ih=>exact .cons a ih
theorem VsDen.ints {ns:List Int}{vs:List Value}(h:VsDen (ns.map PV.int) vs):IntsAre vs ns:=by
 induction ns generalizing vs with
 |nil=>cases h;exact .nil
 |cons n ns ih=>cases h with
  |cons a r=>obtain⟨t,rfl⟩:=a;exact .cons _ _ (ih r)
theorem VsDen.strs {ns:List Str}{vs:List Value}(h:VsDen (ns.map PV.str) vs):StrsAre vs ns:=by
 induction ns generalizing vs with
 |nil=>cases h;exact .nil
 |cons n ns ih=>cases h with
  |cons a r=>obtain⟨t,rfl⟩:=a;exact .cons _ _ (ih r)
theorem VsDen.len {ps:List PV}{vs:List Value}(h:VsDen ps vs):vs.length=ps.length:=by
 induction h with
 |nil=>rfl
 |cons _ _ ih=>exact congrArg (· +1) ih
noncomputable abbrev Cx.inn (C:Cx)(scope:Scope)(cl:List (Str×Addr))(Cc:Addr)(E':Value->Shared->Prop)(hk:scope.kind=.function):Cx:=
 { C with E:=E',env:=compEnvC scope cl Cc C.env,lk:=false,hk:=hk,hL:=fun h=>nomatch h }
section
variable {C:Cx}{m:Str->Option Value}{nw:Led}{tb:Tb}{rest:List Stmt}{ks:List (List Stmt)}{pos spos:Pos}
noncomputable def TurnV (C:Cx)(m:Str->Option Value)(nw:Led)(elt:Expr)(g:Bool)(v:PV):List Expr->Prop
 | []=>g=true/\EvTo C m nw elt v
 | [c]=>∃p,BTo C m nw c p/\(p↔g=true)/\(g=true->EvTo C m nw elt v)
 |_::_::_=>False
theorem TurnV.go {C:Cx}{elt:Expr}{g:Bool}{v:PV}{Q:Value->Shared->Prop}{R:Shared->Prop}:∀{ifs:List Expr},TurnV C m nw elt g v ifs->(g=true->VK C m nw Q v)->(g=false->At C m nw R)->
  At C m nw fun s=>wpAny C.M C.A (forIn ifs true fun c r=>if r=true then do let ok<-isTrue c C.env (eval c C.env);pure (ForInStep.yield ok) else pure (ForInStep.yield r)) (fun ok s₃=>if ok=true then wpAny C.M C.A (eval elt C.env) Q C.E s₃ else R s₃) C.E s
 | [],h,q,_=>fun h0 tk F N=>by
  refine wpAny_tests_nil ?_
  rw[if_pos rfl]
  exact h.2 _ (q h.1) h0 tk F N
 | [c],⟨p,hb,hp,he⟩,q,r=>fun h0 tk F N=>by
  refine wpAny_tests_one (hb _ (fun b hb' h1 tk1 F1 N1=>?_) h0 tk F N)
  cases b with
  |true=>
   have hg:=hp.mp (hb'.mp rfl)
   rw[if_pos rfl]
   exact he hg _ (q hg) h1 tk1 F1 N1
  |false=>
   have hg:g=false:=by
    cases g with
    |false=>rfl
    |true=>exact absurd (hb'.mpr (hp.mpr rfl)) (by decide)
   rw[if_neg (by decide)]
   exact r hg h1 tk1 F1 N1
 |_::_::_,h,_,_=>h.elim
theorem filt_succ (g:Nat->Bool)(f:Nat->PV)(i:Nat):((List.range (i+1)).filter g).map f=((List.range i).filter g).map f++(if g i=true then[f i] else[]):=by
 rw[List.range_succ,List.filter_append,List.map_append]
 congr 1
 cases h:g i<;>simp[h]
theorem comp_core {elt iter:Expr}{ifs:List Expr}{x:Str}{px:Pos}{scope:Scope}{cl:List (Str×Addr)}{s₂:Shared}{I:Addr}{fp:List Addr}{n:Nat}{P:Nat->Value->Prop}{St:Nat->Heap->Prop}{h₀':Heap}{tk₀:Nat}(f:Nat->PV)(g:Nat->Bool){RR:Value->Addr->Result->Shared->Prop}
  (W:Walks C.prog C.w C.A I fp [I] n P St) (hsz:n<=10000) (hIo:∀i h,St i h->∃o,h.get? I=some o)
  (hSt:∀i h h' o,St i h->h.get? I=some o->h'.get? I=some o->(∀b o,C.h₀.get? b=some o->h'.get? b=some o)->News C.h₀ C.L h' nw->St i h')
  (hcell:∀y∈scope.names,y.2≠.cell) (hkind:scope.kind=.function) (hx:scope.names.lookup x=some .local) (hxd:(x==ofString "__debug__")=false) (hst:St 0 s₂.heap) (hfp:∀b∈fp,b<s₂.heap.objs.size) (hs2:s₂=C.sg h₀' tk₀)
  (F:Fr C.h₀ C.L s₂.heap m) (N:News C.h₀ C.L s₂.heap nw) (hIL:C.L≠I) (hI₀:C.h₀.get? I=none) (off:∀p∈nw,p.1≠I)
  (turn:∀i v Cc E' nw',i<n->P i v->(∀p∈nw,p∈nw')->NmIs (C.inn scope cl Cc E' hkind) m nw' x v->TurnV (C.inn scope cl Cc E' hkind) m nw' elt (g i) (f i) ifs)
  (hRR:∀D Cc h tk m' vs,VsDen (((List.range n).filter g).map f) vs->Fr C.h₀ C.L h m->News C.h₀ C.L h ((D,lst vs)::nw)->Off1 D nw->h.Ns Cc m'->C.h₀.get? Cc=none->C.h₀.get? D=none->Cc≠C.L->D≠C.L->Cc≠D->(∀p∈nw,p.1≠Cc)->RR (.ref D) Cc (.ok .next) (C.sg h tk)):
  wpAny C.M C.A (newList []) (fun acc s₃=>wpAny C.M C.A (newFunctionEnv scope C.env.globals cl [] C.env.qual none .none (some C.env)) (fun cenv s₄=>
   codeAny C.M C.A (.compStart (.ListComp elt [⟨.Name x px,iter,ifs,0⟩] scope pos) 0 (.ref I) acc { cenv with scope:=relabel scope C.env }) (RR acc cenv.locals) s₄) C.E s₃) C.E s₂:=by
 subst hs2
 refine comp_block (S:=fun nw'=>nw'=nw) (R:=fun i ys nw'=>nw'=nw/\VsDen (((List.range i).filter g).map f) ys) W (Nat.le_trans hsz (by decide)) hIo (fun i h h' o nw' st e1 e2 k N' S'=>hSt i h h' o st e1 e2 k (S'▸N')) hcell hkind hx hst hfp F N hIL hI₀ off rfl ⟨rfl,.nil⟩ ?T ?fin
 case fin=>
  intro D Cc h tk m' ys news' F' N' o1 hn hC₀ hD₀ hCL hDL hCD offC r
  obtain⟨rfl,hv⟩:=r
  exact hRR D Cc h tk m' ys hv F' N' o1 hn hC₀ hD₀ hCL hDL hCD offC
 case T=>
  intro i v ys news I' oI Cc oC D m₂ h tk E' hi hP hR hS hoC hm2 F' N' off' hne
  obtain⟨rfl,hv⟩:=hR
  have hnm:NmIs (C.inn scope cl Cc E' hkind) m ((I',oI)::(Cc,oC)::(D,lst ys)::news) x v:=⟨hxd,.inr (.inr ⟨lookup_relabel_local hx,oC,m₂,.tail _ (.head _),hoC,hm2⟩)⟩
  have key:=turn i v Cc E' _ hi hP (fun p hp=>.tail _ (.tail _ (.tail _ hp))) hnm
  refine TurnV.go (C:=C.inn scope cl Cc E' hkind) (Q:=fun y s₄=>TurnC C.h₀ C.L m (C.sg h tk) I' oI Cc oC D (lst ys) (fun nw'=>nw'=news/\nw'=news/\VsDen (((List.range (i+1)).filter g).map f) (ys++[y])) s₄) (R:=fun s₃=>TurnC C.h₀ C.L m (C.sg h tk) I' oI Cc oC D (lst ys) (fun nw'=>nw'=news/\nw'=news/\VsDen (((List.range (i+1)).filter g).map f) ys) s₃) key (fun hg t h1 tk1 F1 N1=>?_) (fun hg h1 tk1 F1 N1=>?_) h tk F' N'
  ·exact⟨h1,tk1,news,rfl,F1,N1,off',rfl,rfl,by rw[filt_succ,if_pos hg];exact hv.snoc ⟨t,rfl⟩⟩
  ·exact⟨h1,tk1,news,rfl,F1,N1,off',rfl,rfl,by rw[filt_succ,hg,if_neg (by decide),List.append_nil];exact hv⟩
theorem off1_ne {D:Addr}{l:Led}(x:Off1 D l):∀p∈l,p.1≠D:=by
 induction l with
 |nil=>intro p h;cases h
 |cons q l ih=>
  intro p h
  cases h with
  |head=>exact x.1
  |tail _ h=>exact ih x.2 p h
theorem compR {elt iter:Expr}{ifs:List Expr}{x:Str}{px:Pos}{scope:Scope}{cl:List (Str×Addr)}{Q:Value->Shared->Prop}{a b:Int}(n:Nat)(f:Nat->PV)(g:Nat->Bool)(hit:RangeIs C m nw iter a b 1)(hsm:Builtin.Range.small a b 1=true)(hn:Builtin.Range.rangeSize a b 1=(n:Int))(hz:n<=10000)
  (hclos:closureFor scope C.env=pure cl) (hcell:∀y∈scope.names,y.2≠.cell) (hkind:scope.kind=.function) (hnames:∀y∈scope.names,y.2=.local->scope.names.lookup y.1=some .local) (hx:scope.names.lookup x=some .local) (hxd:(x==ofString "__debug__")=false) (hs:∀z,foldedSetIterable iter C.env z=pure z)
  (turn:∀i t Cc E' nw',i<n->(∀p∈nw,p∈nw')->let C':=C.inn scope cl Cc E' hkind;NmIs C' m nw' x (.int (a+(i:Int)) t)->TurnV C' m nw' elt (g i) (f i) ifs)
  (q:∀D vs,VsDen (((List.range n).filter g).map f) vs->(∀p∈nw,p.1≠D)->At C m ((D,lst vs)::nw) (Q (.ref D))):
  At C m nw fun s=>wpAny C.M C.A (eval (.ListComp elt [⟨.Name x px,iter,ifs,0⟩] scope pos) C.env) Q C.E s:=by
 intro h tk F N
 rw[eval_ListComp]
 refine wpAny_comprehension_free (use:=none) rfl hs hclos hkind hnames (hit _ (fun r t u v h1 tk1 F1 N1 hr=>?_) h tk F N)
 refine wpAny_pyIter_range hr hsm ?_
 have W:Walks C.prog C.w C.A h1.objs.size [h1.objs.size] [h1.objs.size] n (fun i v=>∃t,v=.int (a+(i:Int)) t) (fun i h=>IsRangeIter h h1.objs.size (a+(i:Nat)*1) ((n:Int)-(i:Nat)) 1):=range_walks C.hh a n
 refine comp_core (h₀':=h1.push _) (tk₀:=tk1) f g W hz (fun i h st=>⟨_,st⟩) (fun i h h' o st e1 e2 _ _=>by
   have st':h.get? h1.objs.size=some _:=st
   rw[e1] at st'
   show h'.get? h1.objs.size=some _
   rw[e2];exact st') hcell hkind hx hxd (by show IsRangeIter _ _ _ _ _;rw[hn];simpa using Heap.get?_push_size _ rfl) (fun b hb=>by
   rw[List.mem_singleton.mp hb]
   show h1.objs.size<(h1.push _).objs.size
   rw[Heap.size_push];exact Nat.lt_succ_self _) rfl
  (F1.push _) (fun p hp=>⟨Heap.get?_push_of_some _ (N1 p hp).1,(N1 p hp).2⟩) (Nat.ne_of_lt F1.ns.lt) (next_is_new F1) (fun p hp=>Nat.ne_of_lt (Heap.lt_size (N1 p hp).1)) (fun i v Cc E' nw' hi hP hs' hnm=>by obtain⟨t,rfl⟩:=hP;exact turn i t Cc E' nw' hi hs' hnm) ?_
 intro D Cc h tk m' vs hv F' N' o1 hns hC₀ hD₀ hCL hDL hCD offC
 refine⟨m',hns,fun h'' hs''=>q D vs hv (off1_ne o1) h'' tk (F'.change hs'' hCL hC₀) (fun p hp=>?_)⟩
 refine⟨hs''.extBut _ _ ?_ (N' p hp).1,(N' p hp).2⟩
 rcases List.mem_cons.mp hp with rfl|hp
 ·exact Ne.symm hCD
 ·exact offC p hp
theorem compL {elt iter:Expr}{ifs:List Expr}{x:Str}{px:Pos}{scope:Scope}{cl:List (Str×Addr)}{Q:Value->Shared->Prop}{ax:Addr}{its:List Value}{k:Nat}(f:Nat->PV)(g:Nat->Bool)(hm:(ax,listOf its.toArray k)∈nw)(hz:its.length<=10000)(hit:EvTo C m nw iter (.val (.ref ax)))
  (hclos:closureFor scope C.env=pure cl) (hcell:∀y∈scope.names,y.2≠.cell) (hkind:scope.kind=.function) (hnames:∀y∈scope.names,y.2=.local->scope.names.lookup y.1=some .local) (hx:scope.names.lookup x=some .local) (hxd:(x==ofString "__debug__")=false) (hs:∀z,foldedSetIterable iter C.env z=pure z)
  (turn:∀i v Cc E' nw',its[i]? =some v->(∀p∈nw,p∈nw')->let C':=C.inn scope cl Cc E' hkind;NmIs C' m nw' x v->TurnV C' m nw' elt (g i) (f i) ifs)
  (q:∀D vs,VsDen (((List.range its.length).filter g).map f) vs->(∀p∈nw,p.1≠D)->At C m ((D,lst vs)::nw) (Q (.ref D))):
  At C m nw fun s=>wpAny C.M C.A (eval (.ListComp elt [⟨.Name x px,iter,ifs,0⟩] scope pos) C.env) Q C.E s:=by
 intro h tk F N
 rw[eval_ListComp]
 refine wpAny_comprehension_free (use:=none) rfl hs hclos hkind hnames (hit _ (fun _ h1 tk1 F1 N1=>?_) h tk F N)
 have hl:h1.IsList ax its.toArray:=⟨_,(N1 _ hm).1,rfl,k,rfl⟩
 have hlt:ax<h1.objs.size:=Heap.lt_size (N1 _ hm).1
 refine wpAny_pyIter_list hl ?_
 have W:Walks C.prog C.w C.A h1.objs.size [h1.objs.size,ax] [h1.objs.size] its.length (fun i v=>its[i]? =some v) (fun i h=>h.IsListIter h1.objs.size ax i/\h.IsList ax its.toArray):=by
  have:=Walks.list (prog:=C.prog) (w:=C.w) (A:=C.A) C.hh h1.objs.size ax (Nat.ne_of_lt hlt) its.toArray
  simpa using this
 refine comp_core (h₀':=h1.push _) (tk₀:=tk1) f g W hz (fun i h st=>by obtain⟨o,e,_⟩:=st.1;exact⟨o,e⟩) (fun i h h' o st e1 e2 k0 N'=>by
   obtain⟨o',g1,g2⟩:=st.1
   rw[e1] at g1;cases g1
   exact⟨⟨o,e2,g2⟩,⟨_,(N' _ hm).1,rfl,k,rfl⟩⟩) hcell hkind hx hxd ⟨⟨_,Heap.get?_push_size _ rfl,rfl,rfl⟩,hl.push _⟩ (fun b hb=>by
   show b<(h1.push _).objs.size
   rw[Heap.size_push]
   rcases List.mem_cons.mp hb with rfl|hb
   ·exact Nat.lt_succ_self _
   ·rw[List.mem_singleton.mp hb];exact Nat.lt_succ_of_lt hlt) rfl
  (F1.push _) (fun p hp=>⟨Heap.get?_push_of_some _ (N1 p hp).1,(N1 p hp).2⟩) (Nat.ne_of_lt F1.ns.lt) (next_is_new F1) (fun p hp=>Nat.ne_of_lt (Heap.lt_size (N1 p hp).1)) (fun i v Cc E' nw' hi hP hs' hnm=>turn i v Cc E' nw' hP hs' hnm) ?_
 intro D Cc h tk m' vs hv F' N' o1 hns hC₀ hD₀ hCL hDL hCD offC
 refine⟨m',hns,fun h'' hs''=>q D vs hv (off1_ne o1) h'' tk (F'.change hs'' hCL hC₀) (fun p hp=>?_)⟩
 refine⟨hs''.extBut _ _ ?_ (N' p hp).1,(N' p hp).2⟩
 rcases List.mem_cons.mp hp with rfl|hp
 ·exact Ne.symm hCD
 ·exact offC p hp
theorem J.compR {elt iter:Expr}{ifs:List Expr}{x:Str}{px:Pos}{scope:Scope}{cl:List (Str×Addr)}{y:Str}{py:Pos}{a b:Int}(n:Nat)(f:Nat->PV)(g:Nat->Bool)(hit:RangeIs C m nw iter a b 1)(hsm:Builtin.Range.small a b 1=true)(hn:Builtin.Range.rangeSize a b 1=(n:Int))(hz:n<=10000)(hsw:swapsWith (.ListComp elt [⟨.Name x px,iter,ifs,0⟩] scope pos) (some (.Name y py)) spos.line C.env=pure true)(hy:C.kl y=some .local)
  (hclos:closureFor scope C.env=pure cl) (hcell:∀y∈scope.names,y.2≠.cell) (hkind:scope.kind=.function) (hnames:∀y∈scope.names,y.2=.local->scope.names.lookup y.1=some .local) (hx:scope.names.lookup x=some .local) (hxd:(x==ofString "__debug__")=false) (hs:∀z,foldedSetIterable iter C.env z=pure z)
  (turn:∀i t Cc E' nw',i<n->(∀p∈nw,p∈nw')->let C':=C.inn scope cl Cc E' hkind;NmIs C' m nw' x (.int (a+(i:Int)) t)->TurnV C' m nw' elt (g i) (f i) ifs)
  (q:∀D vs,VsDen (((List.range n).filter g).map f) vs->(∀p∈nw,p.1≠D)->J C (up m y (.ref D)) ((D,lst vs)::nw) rest ks):
  J C m nw (.Assign [.Name y py] (.ListComp elt [⟨.Name x px,iter,ifs,0⟩] scope pos) spos::rest) ks:=by
 refine J.step fun h tk F N=>?_
 rw[exec_Assign_Name_used _ _ _ _ hsw]
 refine wpAny_bind (wpAny_standAt (wpAny_bind ?_))
 show wpAny _ C.A (do let _<-comprehension (.ListComp elt [⟨.Name x px,iter,ifs,0⟩] scope pos) scope C.env _ (newList []) false (eval iter C.env) (some (assign (.Name y py) C.env))) _ _ _
 refine wpAny_bind (wpAny_mono (wpAny_comprehension_free (use:=some (assign (.Name y py) C.env)) (Q:=fun _ s'=>C.post (rest::ks) .next s') rfl hs hclos hkind hnames
  (hit _ (fun r t u v h1 tk1 F1 N1 hr=>?_) h tk F N)) (fun _ s' hq=>wpAny_pure (wpAny_pure hq)) fun _ _ e=>e)
 refine wpAny_pyIter_range hr hsm ?_
 have W:Walks C.prog C.w C.A h1.objs.size [h1.objs.size] [h1.objs.size] n (fun i v=>∃t,v=.int (a+(i:Int)) t) (fun i h=>IsRangeIter h h1.objs.size (a+(i:Nat)*1) ((n:Int)-(i:Nat)) 1):=range_walks C.hh a n
 refine comp_core (h₀':=h1.push _) (tk₀:=tk1) f g W hz (fun i h st=>⟨_,st⟩) (fun i h h' o st e1 e2 _ _=>by
   have st':h.get? h1.objs.size=some _:=st
   rw[e1] at st'
   show h'.get? h1.objs.size=some _
   rw[e2];exact st') hcell hkind hx hxd (by show IsRangeIter _ _ _ _ _;rw[hn];simpa using Heap.get?_push_size _ rfl) (fun b hb=>by
   rw[List.mem_singleton.mp hb]
   show h1.objs.size<(h1.push _).objs.size
   rw[Heap.size_push];exact Nat.lt_succ_self _) rfl
  (F1.push _) (fun p hp=>⟨Heap.get?_push_of_some _ (N1 p hp).1,(N1 p hp).2⟩) (Nat.ne_of_lt F1.ns.lt) (next_is_new F1) (fun p hp=>Nat.ne_of_lt (Heap.lt_size (N1 p hp).1)) (fun i v Cc E' nw' hi hP hs' hnm=>by obtain⟨t,rfl⟩:=hP;exact turn i t Cc E' nw' hi hs' hnm) ?_
 intro D Cc h tk m' vs hv F' N' o1 hns hC₀ hD₀ hCL hDL hCD offC
 show wpAny _ C.A (assign (.Name y py) C.env (.ref D)) _ _ _
 obtain⟨hl0,hy2⟩:=kl_h hy
 refine wpAny_assign_Name (wpAny_storeName_local hy2 (by rw[hl0];exact F'.ns) (fun h₂ hn₂ hs₂=>?_) (by rw[C.hk];rfl))
 rw[hl0] at hn₂ hs₂
 have F₂:=F'.set hn₂ hs₂
 refine⟨m',hns.sameBut hs₂ hCL,fun h'' hs''=>q D vs hv (off1_ne o1) h'' _ (F₂.change hs'' hCL hC₀) (fun p hp=>?_)⟩
 have z:h₂.get? p.1=some p.2:=hs₂.extBut _ _ (N' p hp).2.1 (N' p hp).1
 refine⟨hs''.extBut _ _ ?_ z,(N' p hp).2⟩
 rcases List.mem_cons.mp hp with rfl|hp
 ·exact Ne.symm hCD
 ·exact offC p hp
theorem J.compL {elt iter:Expr}{ifs:List Expr}{x:Str}{px:Pos}{scope:Scope}{cl:List (Str×Addr)}{y:Str}{py:Pos}{ax:Addr}{its:List Value}{k:Nat}(f:Nat->PV)(g:Nat->Bool)(hm:(ax,listOf its.toArray k)∈nw)(hz:its.length<=10000)(hit:EvTo C m nw iter (.val (.ref ax)))(hsw:swapsWith (.ListComp elt [⟨.Name x px,iter,ifs,0⟩] scope pos) (some (.Name y py)) spos.line C.env=pure true)(hy:C.kl y=some .local)
  (hclos:closureFor scope C.env=pure cl) (hcell:∀y∈scope.names,y.2≠.cell) (hkind:scope.kind=.function) (hnames:∀y∈scope.names,y.2=.local->scope.names.lookup y.1=some .local) (hx:scope.names.lookup x=some .local) (hxd:(x==ofString "__debug__")=false) (hs:∀z,foldedSetIterable iter C.env z=pure z)
  (turn:∀i v Cc E' nw',its[i]? =some v->(∀p∈nw,p∈nw')->let C':=C.inn scope cl Cc E' hkind;NmIs C' m nw' x v->TurnV C' m nw' elt (g i) (f i) ifs)
  (q:∀D vs,VsDen (((List.range its.length).filter g).map f) vs->(∀p∈nw,p.1≠D)->J C (up m y (.ref D)) ((D,lst vs)::nw) rest ks):
  J C m nw (.Assign [.Name y py] (.ListComp elt [⟨.Name x px,iter,ifs,0⟩] scope pos) spos::rest) ks:=by
 refine J.step fun h tk F N=>?_
 rw[exec_Assign_Name_used _ _ _ _ hsw]
 refine wpAny_bind (wpAny_standAt (wpAny_bind ?_))
 show wpAny _ C.A (do let _<-comprehension (.ListComp elt [⟨.Name x px,iter,ifs,0⟩] scope pos) scope C.env _ (newList []) false (eval iter C.env) (some (assign (.Name y py) C.env))) _ _ _
 refine wpAny_bind (wpAny_mono (wpAny_comprehension_free (use:=some (assign (.Name y py) C.env)) (Q:=fun _ s'=>C.post (rest::ks) .next s') rfl hs hclos hkind hnames
  (hit _ (fun _ h1 tk1 F1 N1=>?_) h tk F N)) (fun _ s' hq=>wpAny_pure (wpAny_pure hq)) fun _ _ e=>e)
 have hl:h1.IsList ax its.toArray:=⟨_,(N1 _ hm).1,rfl,k,rfl⟩
 have hlt:ax<h1.objs.size:=Heap.lt_size (N1 _ hm).1
 refine wpAny_pyIter_list hl ?_
 have W:Walks C.prog C.w C.A h1.objs.size [h1.objs.size,ax] [h1.objs.size] its.length (fun i v=>its[i]? =some v) (fun i h=>h.IsListIter h1.objs.size ax i/\h.IsList ax its.toArray):=by
  have:=Walks.list (prog:=C.prog) (w:=C.w) (A:=C.A) C.hh h1.objs.size ax (Nat.ne_of_lt hlt) its.toArray
  simpa using this
 refine comp_core (h₀':=h1.push _) (tk₀:=tk1) f g W hz (fun i h st=>by obtain⟨o,e,_⟩:=st.1;exact⟨o,e⟩) (fun i h h' o st e1 e2 k0 N'=>by
   obtain⟨o',g1,g2⟩:=st.1
   rw[e1] at g1;cases g1
   exact⟨⟨o,e2,g2⟩,⟨_,(N' _ hm).1,rfl,k,rfl⟩⟩) hcell hkind hx hxd ⟨⟨_,Heap.get?_push_size _ rfl,rfl,rfl⟩,hl.push _⟩ (fun b hb=>by
   show b<(h1.push _).objs.size
   rw[Heap.size_push]
   rcases List.mem_cons.mp hb with rfl|hb
   ·exact Nat.lt_succ_self _
   ·rw[List.mem_singleton.mp hb];exact Nat.lt_succ_of_lt hlt) rfl
  (F1.push _) (fun p hp=>⟨Heap.get?_push_of_some _ (N1 p hp).1,(N1 p hp).2⟩) (Nat.ne_of_lt F1.ns.lt) (next_is_new F1) (fun p hp=>Nat.ne_of_lt (Heap.lt_size (N1 p hp).1)) (fun i v Cc E' nw' hi hP hs' hnm=>turn i v Cc E' nw' hP hs' hnm) ?_
 intro D Cc h tk m' vs hv F' N' o1 hns hC₀ hD₀ hCL hDL hCD offC
 show wpAny _ C.A (assign (.Name y py) C.env (.ref D)) _ _ _
 obtain⟨hl0,hy2⟩:=kl_h hy
 refine wpAny_assign_Name (wpAny_storeName_local hy2 (by rw[hl0];exact F'.ns) (fun h₂ hn₂ hs₂=>?_) (by rw[C.hk];rfl))
 rw[hl0] at hn₂ hs₂
 have F₂:=F'.set hn₂ hs₂
 refine⟨m',hns.sameBut hs₂ hCL,fun h'' hs''=>q D vs hv (off1_ne o1) h'' _ (F₂.change hs'' hCL hC₀) (fun p hp=>?_)⟩
 have z:h₂.get? p.1=some p.2:=hs₂.extBut _ _ (N' p hp).2.1 (N' p hp).1
 refine⟨hs''.extBut _ _ ?_ z,(N' p hp).2⟩
 rcases List.mem_cons.mp hp with rfl|hp
 ·exact Ne.symm hCD
 ·exact offC p hp
end
end Uc
end
section
namespace Uc
open PyProof.Rows.LCg
noncomputable def turnC {σ:Type}(C:Cx)(led:Option Value->σ->Led)(ps:σ->Nms)(R:σ->Prop)(I:Addr)(o:Obj)(Q:Flow->Shared->Prop)(f:Flow)(s':Shared):Prop:=match f with
 | .ret v=>Q (.ret v) s'
 | .brk=>Q .next s'
 |_=>∃c' v m' h' tk',s'=C.sg h' tk'/\Fr C.h₀ C.L h' m'/\News C.h₀ C.L h' (led v c'++[(I,o)])/\Nd (led v c'++[(I,o)])/\Has m' (ps c')/\R c'
section
variable {C:Cx}{m:Str->Option Value}{nw:Led}{tb:Tb}{rest:List Stmt}{ks:List (List Stmt)}{pos:Pos}
theorem J.tnC {σ:Type}{led:Option Value->σ->Led}{ps:σ->Nms}{R:σ->Prop}{I:Addr}{o:Obj}{Q:Flow->Shared->Prop}(c':σ)(v:Option Value)(hk:Has m (ps c'))(hp:R c')(nd:Nd (led v c'++[(I,o)]))(hs:∀p∈led v c'++[(I,o)],p∈nw):
  J (C.setQ (turnC C led ps R I o Q)) m nw [] []:=J.done fun h tk F N=>⟨c',v,m,h,tk,rfl,F,News.sub N hs,nd,hk,hp⟩
theorem J.forC {σ:Type}{x:Str}{px:Pos}{it:Expr}{body:List Stmt}{a b c:Int}{ck:Addr}{o:Obj}{v₀:Option Value}(n:Nat)(k:Nat)(val:Nat->Int)(led:Option Value->σ->Led)(ps:σ->Nms)(R:Nat->σ->Prop)(c₀:σ)(hit:RangeIs C m nw it a b c)(hval:∀i:Nat,a+(i:Int)*c=val i)(hsm:Builtin.Range.small a b c=true)(hn:Builtin.Range.rangeSize a b c=(n:Int))
  (hE:PassesOwn C.M C.A C.env C.E) (hx:C.env.kindOf x=some .cell) (hc:C.env.cells.lookup x=some ck) (hk:∀v z,(led v z)[k]? =some (ck,celO o v)) (hset:∀v v' z,(led v z).set k (ck,celO o v')=led v' z)
  (hs:∀y,foldedSetIterable it C.env y=pure y) (hps:Has m (ps c₀)) (hR:R 0 c₀) (hnd:Nd (led v₀ c₀))
  (turn:∀i t (z:σ) (u:Str->Option Value) I oI,i<n->R i z->Nd (led (some (.int (val i) t)) z++[(I,oI)])->let C':=C.setQ (turnC C led ps (R (i+1)) I oI (C.post (rest::ks)));J C' (fm u (ps z)) (led (some (.int (val i) t)) z++[(I,oI)]) body [])
  (done:∀(z:σ) (u:Str->Option Value) v,R n z->Nd (led v z)->J C (fm u (ps z)) (led v z) rest ks) (hl:∀p∈led v₀ c₀,p∈nw):J C m nw (.For (.Name x px) it body [] pos::rest) ks:=by
 refine J.step fun h0 tk0 F0 N0=>wpAny_For (hit _ (fun r t u v h1 tk1 F1 N1 hr=>?_) h0 tk0 F0 N0) hs
 refine wpAny_pyIter_range hr hsm ?_
 have W:∀I:Addr,Walks C.prog C.w C.A I [I] [I] n (fun i v=>i<n/\∃t,v=.int (a+i*c) t) (fun i h=>IsRangeIter h I (a+(i:Nat)*c) ((n:Int)-(i:Nat)) c):=fun I=>(Walks.range C.hh I a c n).bound
 have main:∀(I:Addr) (s₂:Shared),(∃h' tk,s₂=C.sg h' tk/\IsRangeIter h' I (a+((0:Nat):Int)*c) ((n:Int)-((0:Nat):Int)) c/\Fr C.h₀ C.L h' m/\News C.h₀ C.L h' (led v₀ c₀))->C.h₀.get? I=none->I≠C.L->(∀p∈led v₀ c₀,p.1≠I)->
   codeAny C.M C.A (.forLoop (.Name x px) (.ref I) body [] C.env) (fun r s'=>match r with| .ok f=>C.post (rest::ks) f s'| .error e=>cameBackBy C.M C.A C.env C.E e s') s₂:=by
  intro I s₂ w11q hI₀ hIL hIn;(refine Uc.ex2 w11q fun h₁ tk₁=>Uc.an4 fun e1q st₁ F₁ N₁=>?_;clear w11q;subst e1q)
  refine codeAny_forLoop (R:=fun r s'=>match r with| .ok f=>C.post (rest::ks) f s'| .error e=>cameBackBy C.M C.A C.env C.E e s')
   (fun z s'=>∃h' tk i c' m' v,s'=C.sg h' tk/\i<=n/\z=n+1-i/\IsRangeIter h' I (a+(i:Nat)*c) ((n:Int)-(i:Nat)) c/\Fr C.h₀ C.L h' m'/\News C.h₀ C.L h' (led v c')/\Nd (led v c')/\(∀p∈led v c',p.1≠I)/\Has m' (ps c')/\R i c') ?_ (n+1)
   (Uc.ei6 h₁ tk₁ 0 c₀ m v₀ ⟨rfl,Nat.zero_le _,rfl,st₁,F₁,N₁,hnd,hIn,hps,hR⟩)
  intro z s' w12q;(refine Uc.ex6 w12q fun h' tk i c' m' v'=>Uc.an10 fun e1q hi e2q hst' F' N' nd' hne' hHas' hR'=>?_;clear w12q;subst e1q;subst e2q)
  by_cases hlt:i<n
  ·refine(W I).item i _ _ _ hlt hst' fun v h₂ tk₂ hPv hst₂ hk₂=>?_
   obtain⟨_,ti,rfl⟩:=hPv
   rw[hval]
   have F₂:=fr_but F' hk₂ (Ne.symm hIL) hI₀
   have N₂:News C.h₀ C.L h₂ (led v' c'):=news_but N' hk₂ hne'
   obtain⟨oI,eI,stI⟩:∃oI,h₂.get? I=some oI/\∀h:Heap,h.get? I=some oI->IsRangeIter h I (a+((i+1:Nat):Int)*c) ((n:Int)-((i+1:Nat):Int)) c:=⟨_,hst₂,fun h e=>e⟩
   have N₂':News C.h₀ C.L h₂ (led v' c'++[(I,oI)]):=fun p hp=>by
    rcases List.mem_append.mp hp with hp|hp
    ·exact N₂ p hp
    ·rw[List.mem_singleton.mp hp];exact⟨eI,hIL,hI₀⟩
   have nd₂:Nd (led v' c'++[(I,oI)]):=nd'.snoc hne'
   have hk₃:(led v' c'++[(I,oI)])[k]? =some (ck,celO o v'):=by
    rw[List.getElem?_append_left (List.getElem?_eq_some_iff.mp (hk v' c')).1]
    exact hk v' c'
   have hset₃:∀v,(led v' c'++[(I,oI)]).set k (ck,celO o v)=led v c'++[(I,oI)]:=fun v=>by
    rw[List.set_append_left _ _ (List.getElem?_eq_some_iff.mp (hk v' c')).1,hset]
   refine wpAny_assign_Name (storeK (s:=C.sg h₂ tk₂) F₂ N₂' nd₂ hk₃ C.hk hx hc fun h₃ F₃ N₃=>?_)
   rw[hset₃] at N₃
   have nd₃:Nd (led (some (.int (val i) ti)) c'++[(I,oI)]):=by
    rw[<-hset₃]
    exact nd₂.set hk₃
   refine wpAny_passesOwn hE (wpAny_mono (turn i ti c' m' I oI hlt hR' nd₃ h₃ tk₂ (by rw[fm_eq hHas'];exact F₃) N₃) (fun f s₄ q=>?_) fun _ _ e=>e)
   have fin:(∃c' v m' h' tk',s₄=C.sg h' tk'/\Fr C.h₀ C.L h' m'/\News C.h₀ C.L h' (led v c'++[(I,oI)])/\Nd (led v c'++[(I,oI)])/\Has m' (ps c')/\R (i+1) c')->
     ∃z,z<n+1-i/\∃h' tk i c' m' v,s₄=C.sg h' tk/\i<=n/\z=n+1-i/\IsRangeIter h' I (a+(i:Nat)*c) ((n:Int)-(i:Nat)) c/\Fr C.h₀ C.L h' m'/\News C.h₀ C.L h' (led v c')/\Nd (led v c')/\(∀p∈led v c',p.1≠I)/\Has m' (ps c')/\R i c':=by
    intro w13q;(refine Uc.ex5 w13q fun c₅ v₅ m₅ h₅ tk₅=>Uc.an6 fun e1q F₅ N₅ nd₅ hH₅ hR₅=>?_;clear w13q;subst e1q)
    have nd₆:=nd₅
    unfold Nd at nd₆
    rw[List.map_append,List.nodup_append] at nd₆
    exact⟨n+1-(i+1),Nat.sub_lt_sub_left (Nat.lt_succ_of_lt hlt) (Nat.lt_succ_self i),Uc.ei6 h₅ tk₅ (i+1) c₅ m₅ v₅ ⟨rfl,hlt,rfl,stI _ (N₅ (I,oI) (List.mem_append_right _ (.head _))).1,F₅,News.sub N₅ fun p hp=>List.mem_append_left _ hp,nd₆.1,fun p hp=>nd₆.2.2 p.1 (List.mem_map_of_mem hp) I (.head _),hH₅,hR₅⟩⟩
   cases f with
   |ret v=>exact q
   |brk=>exact q
   |next=>exact fin q
   |cont=>exact fin q
  ·obtain rfl:i=n:=Nat.le_antisymm hi (Nat.not_lt.mp hlt)
   refine(W I).done _ _ _ hst' fun h₂ tk₂ hk₂=>?_
   exact wpAny_pure (done c' m' v' hR' nd' h₂ tk₂ (by rw[fm_eq hHas'];exact fr_but F' hk₂ (Ne.symm hIL) hI₀) (news_but N' hk₂ hne'))
 refine main _ _ ⟨_,_,rfl,?_,F1.push _,fun p hp=>⟨Heap.get?_push_of_some _ (N1 p (hl p hp)).1,(N1 p (hl p hp)).2⟩⟩ (next_is_new F1) (Ne.symm (Nat.ne_of_lt F1.ns.lt)) fun p hp=>Nat.ne_of_lt (Heap.lt_size (N1 p (hl p hp)).1)
 show IsRangeIter _ _ _ _ _
 rw[hn]
 simpa using Heap.get?_push_size _ rfl
theorem J.whileX {σ:Type}{test:Expr}{body:List Stmt}(led:σ->Led)(ps:σ->Nms)(P:σ->Prop)(μ:σ->Nat)(c₀:σ)(hE:PassesOwn C.M C.A C.env C.E)(hk:Has m (ps c₀))(hp:P c₀)
  (turn:∀(c:σ) (u:Str->Option Value),P c->∃p:Prop,BTo C (fm u (ps c)) (led c) test p/\(p->let C':=C.setQ (whQ C led ps P μ c);J C' (fm u (ps c)) (led c) body [])/\(¬ p->J C (fm u (ps c)) (led c) rest ks))
  (hn:∀p∈led c₀,p∈nw):
  J C m nw (.While test body [] pos::rest) ks:=by
 refine J.step fun h tk F N=>?_
 refine While_inv (s:=C.sg h tk) (L:=C.L) (fun n m nx=>∃c:σ,nx=led c/\μ c=n/\Has m (ps c)/\P c) F (News.sub N hn) ⟨c₀,rfl,rfl,hk,hp⟩ ?_ hE
 intro n m₁ nx h1 tk1 F₁ N₁ w31q;(refine Uc.ex1 w31q fun c=>Uc.an4 fun e1q e2q hk1 hp1=>?_;clear w31q;subst e1q;subst e2q)
 obtain⟨p,hb,q⟩:=turn c m₁ hp1
 rw[fm_eq hk1] at hb q
 refine hb _ (fun b hb' h2 tk2 F2 N2=>?_) h1 tk1 F₁ N₁
 cases b with
 |false=>
  rw[if_neg (by decide)]
  exact q.2 (fun z=>Bool.false_ne_true (hb'.mpr z)) h2 tk2 F2 N2
 |true=>
  rw[if_pos rfl]
  refine wpAny_mono (q.1 (hb'.mp rfl) h2 tk2 F2 N2) (fun f s₃ r=>?_) fun _ _ x=>x
  (refine Uc.ah2 r fun e1q q0q=>Uc.ex4 q0q fun c' m' h' tk'=>Uc.an6 fun e2q F' N' hk' hp' hm'=>?_;clear r q0q;subst e1q;subst e2q)
  exact⟨rfl,h',tk',m',led c',μ c',rfl,F',N',hm',c',rfl,rfl,hk',hp'⟩
theorem BTo.ne {e:Expr}{p p':Pos}{P:Prop}(h:∀Q:Value->Shared->Prop,(∀D vs n nw',(D,listOf vs.toArray n)∈nw'->(∀p∈nw,p∈nw')->(¬ vs=[]↔P)->At C m nw' (Q (.ref D)))->At C m nw fun s=>wpAny C.M C.A (eval e C.env) Q C.E s):BTo C m nw (.Compare e [.NotEq] [.List [] p'] p) P:=by
 intro K q h0 tk F N
 refine wpAny_isTrue_Compare1 (h _ (fun D vs n nw' hm hs hP h1 tk1 F1 N1=>?_) h0 tk F N) rfl
 refine List_ (args_nil (newList_N (s:=C.sg h1 tk1) F1 N1 (fun h2 F2 N2=>?_) (by decide)))
 have hN:News C.h₀ C.L h2 nw:=News.sub N2 fun p hp=>.tail _ (hs p hp)
 cases vs with
 |nil=>exact ne_nil_ff (s:=C.sg h2 tk1) N2 (.tail _ hm) (.head _) C.hu (wpAny_truthy_bool (q false ⟨fun z=>absurd z (by decide),fun z=>absurd rfl (hP.mpr z)⟩ h2 tk1 F2 hN))
 |cons v vs=>exact ne_nil_tt (s:=C.sg h2 tk1) N2 (.tail _ hm) (.head _) C.hu (wpAny_truthy_bool (q true ⟨fun _=>hP.mp (by simp),fun _=>rfl⟩ h2 tk1 F2 hN))
theorem BTo.and {x y:Expr}{ys:List Expr}{p p':Pos}{P Q:Prop}(h1:BTo C m nw x P)(h2:P->BTo C m nw (.BoolOp .And (y::ys) p') Q)(hp:p=p'):BTo C m nw (.BoolOp .And (x::y::ys) p) (P/\Q):=by
 subst hp
 intro K q h tk F N
 refine isTrue_and (h1 _ (fun c hc h1 tk1 F1 N1=>?_) h tk F N)
 cases c with
 |true=>exact h2 (hc.mp rfl) K (fun b hb=>q b (hb.trans ⟨fun z=>⟨hc.mp rfl,z⟩,And.right⟩)) h1 tk1 F1 N1
 |false=>exact q false ⟨fun z=>absurd z (by decide),fun z=>absurd (hc.mpr z.1) (by decide)⟩ h1 tk1 F1 N1
theorem BTo.one {x:Expr}{p:Pos}{P:Prop}(h:BTo C m nw x P):BTo C m nw (.BoolOp .And [x] p) P:=by
 intro K q h0 tk F N
 refine isTrue_and (h _ (fun c hc h1 tk1 F1 N1=>?_) h0 tk F N)
 cases c with
 |true=>exact isTrue_and_nil (q true hc h1 tk1 F1 N1)
 |false=>exact q false hc h1 tk1 F1 N1
theorem J.iteX {t:Expr}{b o:List Stmt}{p:Prop}(ht:BTo C m nw t p)(h1:p->J C m nw b (rest::ks))(h2:¬ p->J C m nw o (rest::ks)):J C m nw (.If t b o pos::rest) ks:=by
 refine J.step fun h0 tk F N=>wpAny_If (ht _ (fun c hc h' tk' F' N'=>?_) h0 tk F N)
 cases c with
 |true=>rw[if_pos rfl];exact h1 (hc.mp rfl) h' tk' F' N'
 |false=>rw[if_neg (by decide)];exact h2 (fun z=>Bool.false_ne_true (hc.mpr z)) h' tk' F' N'
end
end Uc
end
section
namespace Uc
open PyProof.Rows.LCg
section
variable {C:Cx}{m:Str->Option Value}{nw:Led}{tb:Tb}{rest:List Stmt}{ks:List (List Stmt)}{pos:Pos}
noncomputable def EvR (C:Cx)(m:Str->Option Value)(nw:Led)(e:Expr)(R:Value->Led->Prop):Prop:=∀Q:Value->Shared->Prop,(∀v nw',R v nw'->At C m nw' (Q v))->At C m nw fun s=>wpAny C.M C.A (eval e C.env) Q C.E s
noncomputable def SpL (C:Cx)(m:Str->Option Value)(nw:Led)(es:List Expr)(K:List Value->Led->Prop):Prop:=∀pos,At C m nw fun s=>wpAny C.M C.A (spliced (backTo pos (starEach es C.env))) (fun vs s'=>∃nw' h tk,s'=C.sg h tk/\Fr C.h₀ C.L h m/\News C.h₀ C.L h nw'/\K vs nw') C.E s
theorem EvR.mono {e:Expr}{R R':Value->Led->Prop}(h:EvR C m nw e R)(k:∀v n,R v n->R' v n):EvR C m nw e R':=fun Q q=>h Q fun v n r=>q v n (k v n r)
theorem EvR.sub {e:Expr}{R:Value->Led->Prop}{nw':Led}(hs:∀p∈nw',p∈nw)(h:EvR C m nw' e R):EvR C m nw e R:=fun Q q h0 tk F N=>h Q q h0 tk F (News.sub N hs)
theorem EvR.pure {e:Expr}{R:Value->Led->Prop}(ht:TbOk C m nw tb)(h:(C.pV m tb e).holds fun v=>∀t,R (v.den t) nw):EvR C m nw e R:=fun Q q=>(pv_all ht 30).1 e Q (Rs.mono (fun v r t=>q _ _ (r t)) h)
theorem EvR.to {e:Expr}{R:Value->Led->Prop}{v:PV}(ht:EvTo C m nw e v)(h:∀t,R (v.den t) nw):EvR C m nw e R:=fun Q q=>ht Q fun t=>q _ _ (h t)
theorem SpL.nil {K:List Value->Led->Prop}(h:K [] nw):SpL C m nw [] K:=fun _ h0 tk F N=>args_nil ⟨nw,h0,tk,rfl,F,N,h⟩
theorem SpL.cons {e:Expr}{r:List Expr}{K:List Value->Led->Prop}(he:plainArg e=true)(hv:EvR C m nw e fun v nw'=>SpL C m nw' r fun vs=>K (v::vs)):SpL C m nw (e::r) K:=fun pos h0 tk F N=>by
 refine args_cons (hv _ (fun v nw' hr h1 tk1 F1 N1=>?_) h0 tk F N) (star1 he)
 exact hr pos h1 tk1 F1 N1
theorem SpL.pure {e:Expr}{r:List Expr}{K:List Value->Led->Prop}(he:plainArg e=true)(ht:TbOk C m nw tb)(h:(C.pV m tb e).holds fun v=>∀t,SpL C m nw r fun vs=>K (v.den t::vs)):SpL C m nw (e::r) K:=.cons he (.pure ht h)
theorem EvR.list {es:List Expr}{p:Pos}{R:Value->Led->Prop}(h:SpL C m nw es fun vs nw'=>vs.length<=10000/\∀D,(∀p∈nw',p.1≠D)->R (.ref D) ((D,listOf vs.toArray 0)::nw')):EvR C m nw (.List es p) R:=fun Q q h0 tk F N=>by
 refine List_ (wpAny_mono (h _ h0 tk F N) (fun vs s' r=>?_) fun _ _ e=>e)
 obtain⟨nw',h1,tk1,rfl,F1,N1,hl,r⟩:=r
 exact newList_N (s:=C.sg h1 tk1) (hsz:=Nat.le_trans hl (by decide)) F1 N1 fun h2 F2 N2=>q _ _ (r _ fun p hp=>Nat.ne_of_lt (Heap.lt_size (N1 p hp).1)) h2 tk1 F2 N2
theorem EvR.list0 {p:Pos}{R:Value->Led->Prop}(h:∀D,(∀p∈nw,p.1≠D)->R (.ref D) ((D,listOf ([]:List Value).toArray 0)::nw)):EvR C m nw (.List [] p) R:=.list (.nil ⟨Nat.zero_le _,h⟩)
theorem EvR.addL {l r:Expr}{p:Pos}{R:Value->Led->Prop}(h:EvR C m nw l fun v nw1=>EvR C m nw1 r fun u nw2=>∃(a b:Addr) (vs ws:List Value) (n n':Nat),v=.ref a/\u=.ref b/\(a,listOf vs.toArray n)∈nw2/\(b,listOf ws.toArray n')∈nw2/\vs.length+ws.length<=10000/\∀D,(∀p∈nw2,p.1≠D)->R (.ref D) ((D,listOf (vs++ws).toArray 0)::nw2)):EvR C m nw (.BinOp l .Add r p) R:=fun Q q h0 tk F N=>by
 refine wpAny_BinOp (h _ (fun v nw1 k h1 tk1 F1 N1=>?_) h0 tk F N)
 refine k _ (fun u nw2 k2 h2 tk2 F2 N2=>?_) h1 tk1 F1 N1
 obtain⟨a,b,vs,ws,n,n',rfl,rfl,ha,hb,hl,kR⟩:=k2
 exact add_lists (s:=C.sg h2 tk2) (hsz:=Nat.le_trans hl (by decide)) F2 N2 (News.isList N2 ha) (News.isList N2 hb) fun h3 F3 N3=>q _ _ (kR _ fun p hp=>Nat.ne_of_lt (Heap.lt_size (N2 p hp).1)) h3 tk2 F3 N3
theorem J.asgR {x:Str}{e:Expr}{p:Pos}(hx:C.kl x=some .local)(hs:swapsWith e (some (.Name x p)) pos.line C.env=pure false)(h:EvR C m nw e fun v nw'=>J C (up m x v) nw' rest ks):J C m nw (.Assign [.Name x p] e pos::rest) ks:=
 J.step fun h0 tk F N=>wpAny_Assign_Name (h _ (fun v nw' r h1 tk1 F1 N1=>J.store (tk:=tk1) hx F1 N1 r) h0 tk F N) hs
theorem J.asgRK {x:Str}{e:Expr}{p:Pos}(hx:C.env.kindOf x=some .cell)(hs:swapsWith e (some (.Name x p)) pos.line C.env=pure false)
  (h:EvR C m nw e fun v nw'=>∃nw2 k c o v₀,(∀p∈nw2,p∈nw')/\C.env.cells.lookup x=some c/\nw2[k]? =some (c,celO o v₀)/\Nd nw2/\J C m (nw2.set k (c,celO o (some v))) rest ks):J C m nw (.Assign [.Name x p] e pos::rest) ks:=
 J.step fun h0 tk F N=>wpAny_Assign_Name (h _ (fun v nw' r h1 tk1 F1 N1=>by
  obtain⟨nw2,k,c,o,v₀,hsub,hc,hk,nd,j⟩:=r
  exact storeK (s:=C.sg h1 tk1) F1 (News.sub N1 hsub) nd hk C.hk hx hc fun h2 F2 N2=>j h2 tk1 F2 N2) h0 tk F N) hs
theorem J.exprR {e:Expr}(hi:interactive C.env=false)(hs:swapsWith e none pos.line C.env=pure false)(h:EvR C m nw e fun _ nw'=>J C m nw' rest ks):J C m nw (.Expr e pos::rest) ks:=
 J.step fun h0 tk F N=>wpAny_Expr_any (h _ (fun _ _ r h1 tk1 F1 N1=>r h1 tk1 F1 N1) h0 tk F N) hi hs
theorem J.retR {e:Expr}(h:EvR C m nw e fun v nw'=>At C m nw' (C.Q (.ret v))):J C m nw (.Return (some e) pos::rest) ks:=
 J.step fun h0 tk F N=>wpAny_Return_some (h _ (fun _ _ r h1 tk1 F1 N1=>C.post_ret (r h1 tk1 F1 N1) _) h0 tk F N)
noncomputable def StsE (C:Cx)(K:(Str->Option Value)->Led->Prop):List Expr->List Value->(Str->Option Value)->Led->Prop
 | [],vs,m,nw=>vs=[]/\K m nw
 |e::r,vs,m,nw=>∃x p v vs',e=.Name x p/\vs=v::vs'/\((C.kl x=some .local/\StsE C K r vs' (up m x v) nw)∨(∃k c o v₀,C.env.kindOf x=some .cell/\C.env.cells.lookup x=some c/\nw[k]? =some (c,celO o v₀)/\Nd nw/\StsE C K r vs' m (nw.set k (c,celO o (some v)))))
theorem StsE.loc {K:(Str->Option Value)->Led->Prop}{x:Str}{p:Pos}{v:Value}{r:List Expr}{vs:List Value}(hx:C.kl x=some .local)(h:StsE C K r vs (up m x v) nw):StsE C K (.Name x p::r) (v::vs) m nw:=⟨x,p,v,vs,rfl,rfl,.inl ⟨hx,h⟩⟩
theorem StsE.cel {K:(Str->Option Value)->Led->Prop}{x:Str}{p:Pos}{v:Value}{r:List Expr}{vs:List Value}{c:Addr}{o:Obj}{v₀:Option Value}(k:Nat)(hx:C.env.kindOf x=some .cell)(hc:C.env.cells.lookup x=some c)(hk:nw[k]? =some (c,celO o v₀))(nd:Nd nw)(h:StsE C K r vs m (nw.set k (c,celO o (some v)))):StsE C K (.Name x p::r) (v::vs) m nw:=⟨x,p,v,vs,rfl,rfl,.inr ⟨k,c,o,v₀,hx,hc,hk,nd,h⟩⟩
theorem StsE.go {Q:Unit->Shared->Prop}:∀(es:List Expr) (vs:List Value) (m:Str->Option Value) (nw:Led),StsE C (fun m' nw'=>At C m' nw' (Q ())) es vs m nw->At C m nw fun s=>wpAny C.M C.A (assignInOrder ((assignEach es C.env).map (·.2)) vs) Q C.E s
 | [],vs,m,nw,h=>fun h0 tk F N=>by
  obtain⟨rfl,h⟩:=h
  exact assignInOrder_nil (h h0 tk F N)
 |e::r,vs,m,nw,h=>fun h0 tk F N=>by
  obtain⟨x,p,v,vs',rfl,rfl,h⟩:=h
  refine assignInOrder_cons (assign_Name ?_)
  rcases h with ⟨hx,h⟩|⟨k,c,o,v₀,hx,hc,hk,nd,h⟩
  ·exact storeE_L (s:=C.sg h0 tk) F N (fun h2 F2 N2=>StsE.go r vs' _ nw h h2 _ F2 N2) C.hk hx
  ·exact storeK (s:=C.sg h0 tk) F N nd hk C.hk hx hc fun h2 F2 N2=>StsE.go r vs' m _ h h2 tk F2 N2
theorem J.tup {elts:List Expr}{k:Nat}{tpos:Pos}{e:Expr}(hs:swapsWithSole [.Tuple elts k tpos] e pos.line C.env=Pure.pure false)(hw:swappedStores [.Tuple elts k tpos] e C.env=Pure.pure none)(hn:(assignEach elts C.env).length=elts.length)(hstar:(assignEach elts C.env).findIdx? (·.1)=none)
  (h:EvR C m nw e fun v nw'=>∃t vs n nw2,v=.ref t/\(t,({ cls:=.type "tuple",data:=.seq vs.toArray n }:Obj))∈nw'/\vs.length=elts.length/\(∀p∈nw2,p∈nw')/\StsE C (fun m' nw3=>J C m' nw3 rest ks) elts vs m nw2):J C m nw (.Assign [.Tuple elts k tpos] e pos::rest) ks:=by
 refine J.step fun h0 tk F N=>Assign_Tuple (h _ (fun v nw' r h1 tk1 F1 N1=>?_) h0 tk F N) hs hw
 obtain⟨t,vs,n,nw2,rfl,hm,hl,hsub,r⟩:=r
 refine unpackN_ (s:=C.sg h1 tk1) F1 N1 (News.isTup N1 hm) C.hh (by rw[hn,List.size_toArray,hl]) hstar fun h2 F2 N2=>?_
 exact StsE.go (Q:=fun _=>C.post (rest::ks) .next) elts vs m nw2 r h2 tk1 F2 (News.sub N2 hsub)
theorem EvR.tup {es:List Expr}{k:Nat}{p:Pos}{R:Value->Led->Prop}(h:SpL C m nw es fun vs nw'=>vs.length<=10000/\∀D,(∀p∈nw',p.1≠D)->R (.ref D) ((D,{ cls:=.type "tuple",data:=.seq vs.toArray })::nw')):EvR C m nw (.Tuple es k p) R:=fun Q q h0 tk F N=>by
 refine Tuple_ (wpAny_mono (h _ h0 tk F N) (fun vs s' r=>?_) fun _ _ e=>e)
 obtain⟨nw',h1,tk1,rfl,F1,N1,hl,r⟩:=r
 exact newTuple_N (s:=C.sg h1 tk1) (hsz:=Nat.le_trans hl (by decide)) F1 N1 fun h2 F2 N2=>q _ _ (r _ fun p hp=>Nat.ne_of_lt (Heap.lt_size (N1 p hp).1)) h2 tk1 F2 N2
theorem J.tupD {elts es:List Expr}{k k2:Nat}{tpos tp2:Pos}(hs:swapsWithSole [.Tuple elts k tpos] (.Tuple es k2 tp2) pos.line C.env=Pure.pure false)(hw:swappedStores [.Tuple elts k tpos] (.Tuple es k2 tp2) C.env=Pure.pure none)(hn:(assignEach elts C.env).length=elts.length)(hstar:(assignEach elts C.env).findIdx? (·.1)=none)(hz:elts.length<=10000)
  (h:SpL C m nw es fun vs nw'=>vs.length=elts.length/\StsE C (fun m' nw3=>J C m' nw3 rest ks) elts vs m nw'):J C m nw (.Assign [.Tuple elts k tpos] (.Tuple es k2 tp2) pos::rest) ks:=by
 refine J.tup hs hw hn hstar (.tup fun p h0 tk F N=>wpAny_mono (h p h0 tk F N) (fun vs s' r=>?_) fun _ _ e=>e)
 obtain⟨nw',h1,tk1,rfl,F1,N1,hl,r⟩:=r
 exact⟨nw',h1,tk1,rfl,F1,N1,by rw[hl];exact hz,fun D hD=>⟨D,vs,0,nw',rfl,.head _,hl,fun _ hp=>.tail _ hp,r⟩⟩
theorem J.tupS {elts es:List Expr}{k k2:Nat}{tpos tp2:Pos}{names:List Str}(hs:swapsWithSole [.Tuple elts k tpos] (.Tuple es k2 tp2) pos.line C.env=Pure.pure false)(hw:swappedStores [.Tuple elts k tpos] (.Tuple es k2 tp2) C.env=Pure.pure (some names))(hz:names.length<=10000)(hloc:∀x∈names,C.kl x=some .local)
  (h:SpL C m nw es fun vs nw'=>vs.length=names.length/\J C ((names.zip vs).reverse.foldl (fun m q=>up m q.1 q.2) m) nw' rest ks):J C m nw (.Assign [.Tuple elts k tpos] (.Tuple es k2 tp2) pos::rest) ks:=by
 refine J.step fun h0 tk F N=>Assign_Tuple_swapped (Tuple_ (wpAny_mono (h _ h0 tk F N) (fun vs s' r=>?_) fun _ _ e=>e)) hs hw
 obtain⟨nw',h1,tk1,rfl,F1,N1,hl,r⟩:=r
 refine newTuple_N (s:=C.sg h1 tk1) (hsz:=by rw[hl];exact Nat.le_trans hz (by decide)) F1 N1 fun h2 F2 N2=>?_
 refine unpackItemsN_ (s:=C.sg h2 tk1) F2 N2 (News.isTup N2 (.head _)) C.hh (by rw[List.size_toArray,hl]) fun h3 F3 N3=>?_
 have N4:News C.h₀ C.L h3 nw':=News.sub N3 fun p hp=>.tail _ hp
 have key:∀(l:List (Str×Value)) (m:Str->Option Value) (h3:Heap) (tk:Nat),(∀q∈l,C.kl q.1=some .local)->Fr C.h₀ C.L h3 m->News C.h₀ C.L h3 nw'->J C (l.foldl (fun m q=>up m q.1 q.2) m) nw' rest ks->wpAny C.M C.A (assignInOrder ((l.map (·.1)).map fun n=>bindName C.env n) (l.map (·.2))) (fun _=>C.post (rest::ks) .next) C.E (C.sg h3 tk):=by
  intro l
  induction l with
  |nil=>exact fun m h3 tk _ F N j=>assignInOrder_nil (j h3 tk F N)
  |cons q l ih=>
   exact fun m h3 tk hq F N j=>assignInOrder_cons (bindName_ (storeE_L (s:=C.sg h3 tk) F N (fun h4 F4 N4=>ih _ h4 _ (fun z hz=>hq z (.tail _ hz)) F4 N4 j) C.hk (hq q (.head _))))
 have:=key (names.zip vs).reverse m h3 tk1 (fun q hq=>hloc q.1 (List.of_mem_zip (List.mem_reverse.mp hq)).1) F3 N4 r
 simp only[List.map_reverse,List.map_fst_zip (Nat.le_of_eq hl.symm),List.map_snd_zip (Nat.le_of_eq hl)] at this
 rw[<-List.map_reverse] at this
 exact this
end
section
variable {C:Cx}{p:Program}{loose:List Str}{mean:ExcName->Option Value}{mg mb:Str->Option Value}{pre:Heap->Prop}{d u:Nat}{m:Str->Option Value}{nw:Led}
theorem EvR.call {f:Str}{ad:Addr}{x:Expr}{xs:List Expr}{p1 p2:Pos}{R:Value->Led->Prop}(ok:CxOk C p loose mean mg mb pre d u)(hg:glob.lookup f=some (.ref ad))(hx:C.env.kindOf f=some .globalImplicit)(hd:(f==ofString "__debug__")=false)(hK:∀P,keepIn (K P) (.ref ad)=true)(h1:plainArg x=true)(h2:xs.all plainArg=true)
  (h:SpL C m nw (x::xs) fun vs nw'=>∃d' u' pre' R',Con C.w p loose mean mg mb ad d' u' vs nw' pre' R'/\(∀h,pre h->pre' h)/\d'<=d/\u'<=u/\∀v n,R' v n->R v n):EvR C m nw (.Call (.Name f p1) (x::xs) [] p2) R:=fun Q q h0 tk F N=>by
 refine Call_ (C.hG _ _ (by rw[ok.gl];exact hg) _ _ _ _ _ _ _ _ C.hk C.hg C.hb hx hd F ?_)
 refine callWith_K ok.X (hK _) (wpAny_mono (h _ h0 tk F N) (fun vs s1 r=>?_) fun _ _ e=>e) (star1 h1) (starAll h2)
 obtain⟨nw',h3,tk3,rfl,F3,N3,d',u',pre',R',hc,hp,hd',hu',k⟩:=r
 exact⟨ok.X.keeps F3.keep,ok.go hc F3 N3 (fun v n r=>q v n (k v n r)) hp hd' hu'⟩
end
end Uc
end
section
namespace Uc
open PyProof.Rows.LCg
theorem EvTo.ofR {C:Cx}{m:Str->Option Value}{nw:Led}{e:Expr}{p:PV}(h:EvR C m nw e fun v n=>n=nw/\∃t,v=p.den t):EvTo C m nw e p:=fun Q q=>h Q fun v n r=>by
 obtain⟨rfl,t,rfl⟩:=r
 exact q t
theorem CxOk.inn {C:Cx}{p:Program}{loose:List Str}{mean:ExcName->Option Value}{mg mb:Str->Option Value}{pre:Heap->Prop}{d u:Nat}{scope:Scope}{cl:List (Str×Addr)}{Cc:Addr}{E':Value->Shared->Prop}{hk:scope.kind=.function}(ok:CxOk C p loose mean mg mb pre d u):CxOk (C.inn scope cl Cc E' hk) p loose mean mg mb pre d u:=⟨ok.gl,ok.X,ok.T,ok.ex⟩
theorem Off3.app {I C D:Addr}{l:Led}(h:Off3 I C D l)(a:Led)(ha:∀p∈a,p.1≠I/\p.1≠C/\p.1≠D):Off3 I C D (a++l):=Off3.of fun p hp=>by
 rcases List.mem_append.mp hp with hp|hp
 ·exact ha p hp
 ·exact h.mem p hp
section
variable {C:Cx}{m:Str->Option Value}{nw:Led}
theorem EvR.compX {elt iter:Expr}{x:Str}{px pos:Pos}{scope:Scope}{cl:List (Str×Addr)}{ax:Addr}{its:List Value}{k:Nat}(Rw:Nat->List Value->Led->Prop)(hm:(ax,listOf its.toArray k)∈nw)(hz:its.length<=10000)(hit:EvTo C m nw iter (.val (.ref ax)))
  (hclos:closureFor scope C.env=Pure.pure cl) (hcells:∀k,cellsFrom k scope.names cl=(x,k)::cl) (hpush:∀h,pushCells h scope.names=h.push { cls:=.type "cell",data:=.cell none }) (hkind:scope.kind=.function)
  (hnames:∀y∈scope.names,y.2=.local->scope.names.lookup y.1=some .local) (hx:(relabel scope C.env).names.lookup x=some .cell) (hs:∀x,foldedSetIterable iter C.env x=Pure.pure x) (h0:Rw 0 [] nw) (hR:∀i ys nw',Rw i ys nw'->∀p∈nw,p∈nw')
  (turn:∀i v ys nw' X oX nwT Cc E',its[i]? =some v->Rw i ys nw'->(∀p∈(X,oX)::nw',p∈nwT)->oX.data=.cell (some v)->
   EvR (C.inn scope ((x,X)::cl) Cc E' hkind) m nwT elt fun y nwT'=>∃add:Led,nwT'=add++nwT/\(∀p∈add,∀q∈nwT,q.1≠p.1)/\Rw (i+1) (ys++[y]) (add++nw')):
  EvR C m nw (.ListComp elt [⟨.Name x px,iter,[],0⟩] scope pos) fun v n=>∃D ys nw',v=.ref D/\Rw its.length ys nw'/\n=(D,lst ys)::nw'/\∀p∈nw',p.1≠D:=fun Q q h1 tk1 F1 N1=>by
 refine comp_listX hclos hcells hpush hkind hnames hx (hit _ (fun t h2 tk2 F2 N2=>?_) h1 tk1 F1 N1) hs
 refine⟨C.h₀,C.L,m,ax,its,k,nw,Rw,rfl,C.hh,F2,N2,hm,hz,h0,fun g X oX i v ys news I oI Cc oC D m₂ h tk E' hi hv hRw hS hoC hoX F N off hX hne=>?_,fun D h tk ys news' r F N o1=>q _ _ ⟨D,ys,news',rfl,r,rfl,off1_ne o1⟩ h tk F N⟩
 refine wpAny_mono (turn i v ys news X oX _ Cc E' hv hRw (fun p hp=>.tail _ (.tail _ (.tail _ hp))) hoX (fun y s₄=>TurnC C.h₀ C.L m (C.sg h tk) I oI Cc oC D (lst ys) (fun nw₂=>∃nw',nw₂=(X,oX)::nw'/\(∀p∈nw',p.1≠X)/\(ax,listOf its.toArray k)∈nw'/\Rw (i+1) (ys++[y]) nw') s₄) (fun y nwT' r h4 tk4 F4 N4=>?_) h tk F N) (fun _ _ r=>r) fun _ _ e=>e
 obtain⟨add,rfl,hadd,r⟩:=r
 have ha:∀p∈add,(p.1≠I/\p.1≠Cc/\p.1≠D)/\p.1≠X:=fun p hp=>⟨⟨fun e=>hadd p hp _ (.head _) e.symm,fun e=>hadd p hp _ (.tail _ (.head _)) e.symm,fun e=>hadd p hp _ (.tail _ (.tail _ (.head _))) e.symm⟩,fun e=>hadd p hp _ (.tail _ (.tail _ (.tail _ (.head _)))) e.symm⟩
 refine⟨h4,tk4,(X,oX)::(add++news),rfl,F4,News.sub N4 fun p hp=>?_,⟨off.1,Off3.app off.2 add fun p hp=>(ha p hp).1⟩,add++news,rfl,fun p hp=>?_,List.mem_append_right _ hS,r⟩
 ·rcases List.mem_cons.mp hp with rfl|hp
  ·exact List.mem_append_right _ (.head _)
  rcases List.mem_cons.mp hp with rfl|hp
  ·exact List.mem_append_right _ (.tail _ (.head _))
  rcases List.mem_cons.mp hp with rfl|hp
  ·exact List.mem_append_right _ (.tail _ (.tail _ (.head _)))
  rcases List.mem_cons.mp hp with rfl|hp
  ·exact List.mem_append_right _ (.tail _ (.tail _ (.tail _ (.head _))))
  rcases List.mem_append.mp hp with hp|hp
  ·exact List.mem_append_left _ hp
  ·exact List.mem_append_right _ (.tail _ (.tail _ (.tail _ (.tail _ hp))))
 ·rcases List.mem_append.mp hp with hp|hp
  ·exact(ha p hp).2
  ·exact hX p hp
noncomputable def PVs (C:Cx)(m:Str->Option Value)(tb:Tb):List Expr->List PV->Prop
 | [],ps=>ps=[]
 |e::r,ps=>∃p ps',ps=p::ps'/\plainArg e=true/\(C.pV m tb e).holds (fun v=>v=p)/\PVs C m tb r ps'
theorem PVs.go {tb:Tb}(ht:TbOk C m nw tb){K:List Value->Led->Prop}:∀(es:List Expr) (ps:List PV),PVs C m tb es ps->(∀vs,VsDen ps vs->K vs nw)->SpL C m nw es K
 | [],ps,h,k=>by cases h;exact SpL.nil (k [] .nil)
 |e::r,ps,h,k=>by
  (refine Uc.ex2 h fun p ps'=>Uc.an4 fun e1q h1 h2 h3=>?_;clear h;subst e1q)
  exact SpL.pure h1 ht (Rs.mono (fun v e t=>by subst e;exact PVs.go ht r ps' h3 fun vs hv=>k _ (.cons ⟨t,rfl⟩ hv)) h2)
theorem EvR.listV {tb:Tb}{es:List Expr}{p:Pos}{R:Value->Led->Prop}(ps:List PV)(ht:TbOk C m nw tb)(hl:ps.length<=10000)(h:PVs C m tb es ps)(k:∀D vs,VsDen ps vs->(∀p∈nw,p.1≠D)->R (.ref D) ((D,listOf vs.toArray 0)::nw)):EvR C m nw (.List es p) R:=
 .list (PVs.go ht es ps h fun vs hv=>⟨by rw[hv.len];exact hl,fun D hD=>k D vs hv hD⟩)
end
end Uc
end
section
namespace Uc
open PyProof.Rows.LCg
noncomputable abbrev mkL (l:List Nat):Str:=⟨l.toArray⟩
section
variable (w:World)(p:Program)(loose:List Str)(mean:ExcName->Option Value)(mg mb:Str->Option Value)
set_option tactic.hygienic true in
theorem page_c (led:Led)(l r:Addr)(ls ps:List Value)(cl cr:Nat)(leads:List (List Nat))(pr:List Int)(hll:(l,listOf ls.toArray cl)∈led)(hrr:(r,listOf ps.toArray cr)∈led)(nd:Nd led)(hls:StrsAre ls (leads.map mkL))(hps:IntsAre ps pr)
  (h6:leads.length=6) (hl4:∀x∈leads,x.length<=4) (hp6:pr.length=6) (h0:∀k,0<k->k<6->lessAt leads 0 k=true):
  Con w p loose mean mg mb 238 16 60 [.ref l,.ref r] led (fun _=>True) (fun v n'=>∃t C O H n,v=.ref t/\(t,({ cls:=.type "tuple",data:=.seq [Value.ref C,.ref O,.ref H].toArray n }:Obj))∈n'/\SvOk n' C (.mm (pgCols leads))/\SvOk n' O (.nn ((List.range 6).map (overZ (lessAt leads))))/\SvOk n' H (.nn ((List.range 6).map (carry ((List.range 6).map (aboveAt (lessAt leads))) (fun k=>pr.getD k 0) 5)))/\∀p∈led,p∈n'):=by
 dsimp only[Con,Pm]
 k_fill
 (set_option tactic.hygienic true in intros)
 rename_i hret
 refine wpAny_call ?_
 (set_option tactic.hygienic true in k_dflt (refine' code_defC ?k1 ?k2 ?k3 ?k4 ?k5 ?kA ?kF ?kK ?k6 ?k7 ?k8 ?k9 ?kB ?kD ?_ ?c2 ?c3 ?c4;(case kA=>exact rfl);(case kF=>exact rfl);(case kK=>assumption);(case k1=>k_asm);(case k2=>k_asm);(case k3=>k_asm);(case k4=>k_asm);(case k5=>k_asm);(case k6=>k_is);(case k7=>k_is);(case k8=>ktr_room);(case k9=>exact BindsTo.of_eq rfl);(case kB=>exact rfl);(case kD=>decide+kernel);(case c2=>exact rfl);(case c3=>exact rfl);(case c4=>exact rfl);k_whole;intro g' L' h' tk' cells' FG' F' N' Y' B' X' T' l1;(try k_lt l1);k_cells Y';(try simp only[List.cons_append,List.nil_append] at N');(try dsimp only);(try k_lift B');(try k_fold)))
 rename_i ok op oc dk dp dc
 rename Fr _ _ _ (bindL _ _ _)=>F1
 rename News _ _ _ ((_+1+1+1,_)::_)=>N1
 rename ∀p∈led,p.1<_=>l1
 obtain⟨rk,rp,rc⟩:ok=celO ok none/\op=celO op none/\oc=celO oc none:=⟨celO_is dk,celO_is dp,celO_is dc⟩
 rw[rk,rp,rc] at N1
 clear rk rp rc dk dp dc
 have nd0:Nd ((L'+1+1+1,celO ok none)::(L'+1+1,celO op none)::(L'+1,celO oc none)::led):=by
  refine .cons (fun q hq=>?_) (.cons (fun q hq=>?_) (.cons (fun q hq=>?_) nd))
  ·rcases List.mem_cons.mp hq with rfl|hq
   ·show @Ne Nat _ _;omega
   rcases List.mem_cons.mp hq with rfl|hq
   ·show @Ne Nat _ _;omega
   ·have:=l1 q hq;show @Ne Nat _ _;omega
  ·rcases List.mem_cons.mp hq with rfl|hq
   ·show @Ne Nat _ _;omega
   ·have:=l1 q hq;show @Ne Nat _ _;omega
  ·have:=l1 q hq;show @Ne Nat _ _;omega
 (show wpAny _ _ (execs f21_body (envX (ofString "_law_page") f21_scope L' _ _ [(ofString "k",L'+1+1+1),(ofString "pile",L'+1+1),(ofString "columns",L'+1)])) _ _ _)
 refine Uc.J.start (gl_ok ‹_› ‹_›) F1 N1 rfl rfl (by ktr_units) ?_
 clear F1 N1
 rename_i qk ek
 intro C
 have ret:∀{m:Str->Option Value} {v:Value} {h:Heap} {tk:Nat} {nw:Led},(∃t C O H n,v=.ref t/\(t,({ cls:=.type "tuple",data:=.seq [Value.ref C,.ref O,.ref H].toArray n }:Obj))∈nw/\SvOk nw C (.mm (pgCols leads))/\SvOk nw O (.nn ((List.range 6).map (overZ (lessAt leads))))/\SvOk nw H (.nn ((List.range 6).map (carry ((List.range 6).map (aboveAt (lessAt leads))) (fun k=>pr.getD k 0) 5)))/\∀p∈led,p∈nw)->Fr C.h₀ C.L h m->News C.h₀ C.L h nw->C.Q (.ret v) (C.sg h tk):=by
  intro m v h tk nw hv F N
  dsimp only[C,qk] at F N ⊢
  exact leaveK_ F N fun kF kN=>hret _ _ _ _ hv kF kN
 have hE:PassesOwn C.M C.A C.env C.E:=PassesOwn.leaving
 have okC:CxOk C p loose mean mg mb (fun _=>True) 13 57:=⟨rfl,by assumption,by assumption,_,_,_,_,_,_,rfl,⟨_,_,_,_,_,rfl,rfl⟩,by assumption,trivial,by ktr_room,by ktr_units⟩
 refine J.gen [(ofString "leads",.ref l),(ofString "prices",.ref r)] ⟨rfl,rfl,trivial⟩ fun u=>?_
 have tbA:TbOk C (fm u [(ofString "leads",.ref l),(ofString "prices",.ref r)]) ((L'+1+1+1,celO ok none)::(L'+1+1,celO op none)::(L'+1,celO oc none)::led) { gl:=C.gl,lk:=C.lk }:=tb0
 refine J.asgRK rfl rfl (EvR.mono (EvR.compX (ax:=l) (its:=ls) (k:=cl) (fun i ys nw'=>∃add,nw'=add++((L'+1+1+1,celO ok none)::(L'+1+1,celO op none)::(L'+1,celO oc none)::led)/\Nd nw'/\RowsAre add ys ((leads.take i).map pgRow)) (.tail _ (.tail _ (.tail _ hll))) (by rw[StrsAre.len_eq hls,List.length_map,h6];decide) (EvTo.of tbA ?lit) rfl (fun _=>rfl) (fun _=>rfl) rfl (by decide) rfl (fun _=>rfl) ⟨[],rfl,nd0,.nil⟩ (fun i ys nw' hR p hp=>?_) ?turn) ?colDone)
 case lit=>walk_at "s";exact rfl
 ·obtain⟨add,rfl,_⟩:=hR
  exact List.mem_append_right _ hp
 case turn=>
  intro i v ys nw' X oX nwT Cc E' hv hR hsub hoX
  obtain⟨add,rfl,ndw,hrows⟩:=hR
  obtain⟨y,t,rfl,hy⟩:=strs_at hls hv
  rw[List.getElem?_map] at hy
  obtain⟨x,hx,rfl⟩:=Option.map_eq_some_iff.mp hy
  intro Q q
  refine compR (a:=1) (b:=6) 5 (fun j=>.int ((colGo (j+1) x 0:Nat):Int)) (fun _=>true) (range2 tb0 rfl rfl rfl ?ha ?hb) (by decide) (by decide) (by decide) rfl (by decide) rfl (by decide) rfl rfl (fun _=>rfl) ?tr fun D vs hvs hne=>?_
  case ha=>walk_at "s";exact rfl
  case hb=>walk_at "s";exact rfl
  case tr=>
   intro j tj Cd E2 nw2 hj hs2
   intro C2 hnm
   rw[show(1:Int)+(j:Int)=((j+1:Nat):Int) by omega] at hnm
   have hnl:NmIs C2 (fm u [(ofString "leads",.ref l),(ofString "prices",.ref r)]) nw2 (ofString "lead") (.str (mkL x) t):=.cell rfl (hs2 _ (hsub _ (.head _))) hoX rfl rfl
   have tb2:=TbOk.addN (TbOk.addN (tb0 (C:=C2) (m:=fm u [(ofString "leads",.ref l),(ofString "prices",.ref r)]) (nw:=nw2)) hnl) hnm
   have ok2:CxOk C2 p loose mean mg mb (fun _=>True) 13 57:=okC.inn.inn
   refine⟨rfl,EvTo.ofR (EvR.call ok2 rfl rfl rfl (fun _=>rfl) rfl rfl (.pure rfl tb2 ?a1))⟩
   case a1=>
    walk_at "s"
    intro t1
    refine .pure rfl tb2 ?_
    walk_at "s"
    intro t2
    exact .nil ⟨8,30,fun _=>True,_,column_c w p loose mean mg mb nw2 (mkL x) (j+1) t1 t2 (by rw[show(mkL x).length=x.length from len_mk x];exact Nat.le_trans (hl4 x (List.mem_of_getElem? hx)) (by decide)) (by omega) (by omega),fun _ _=>trivial,by decide,by decide,fun v n hR=>hR⟩
  have hI:IntsAre vs (pgRow x):=VsDen.ints (ns:=pgRow x) hvs
  refine q _ _ ⟨[(D,lst vs)],rfl,fun p hp z hz=>by rw[List.mem_singleton.mp hp];exact hne z hz,(D,lst vs)::add,rfl,.cons (fun p hp=>hne p (hsub p (.tail _ hp))) ndw,?_⟩
  rw[List.take_add_one,hx,List.map_append]
  exact(hrows.up fun p hp=>.tail _ hp).snoc (.head _) hI
 case colDone=>
  intro v n hv
  (refine Uc.ex3 hv fun D ys nw'=>Uc.an4 fun e1q w9q e2q hne=>?_;clear hv;subst e1q;subst e2q);(refine Uc.ex1 w9q fun add=>Uc.an3 fun e1q ndw hrows=>?_;clear w9q;subst e1q)
  have nd1:Nd ((L'+1+1+1,celO ok none)::(L'+1+1,celO op none)::(L'+1,celO oc none)::((D,lst ys)::add++led)):=Nd.front (A:=(D,lst ys)::add) (B:=[(L'+1+1+1,celO ok none),(L'+1+1,celO op none),(L'+1,celO oc none)]) (Nd.cons hne ndw)
  refine⟨_,2,_,oc,none,fun q hq=>?_,rfl,rfl,nd1,?_⟩
  ·rcases List.mem_cons.mp hq with rfl|hq
   ·exact .tail _ (List.mem_append_right _ (.head _))
   rcases List.mem_cons.mp hq with rfl|hq
   ·exact .tail _ (List.mem_append_right _ (.tail _ (.head _)))
   rcases List.mem_cons.mp hq with rfl|hq
   ·exact .tail _ (List.mem_append_right _ (.tail _ (.tail _ (.head _))))
   rcases List.mem_append.mp hq with hq|hq
   ·rcases List.mem_cons.mp hq with rfl|hq
    ·exact .head _
    ·exact .tail _ (List.mem_append_left _ hq)
   ·exact .tail _ (List.mem_append_right _ (.tail _ (.tail _ (.tail _ hq))))
  rw[StrsAre.len_eq hls,List.length_map,List.take_of_length_le (Nat.le_refl _)] at hrows
  have hD:SvOk ((D,lst ys)::add++led) D (.mm (pgCols leads)):=⟨ys,_,.head _,hrows.up fun q hq=>.tail _ (List.mem_append_left _ hq)⟩
  have hle:∀q∈led,q∈(D,lst ys)::add++led:=fun q hq=>List.mem_append_right ((D,lst ys)::add) hq
  show J C _ ((L'+1+1+1,celO ok none)::(L'+1+1,celO op none)::(L'+1,celO oc (some (.ref D)))::((D,lst ys)::add++led)) _ _
  clear hne hrows ndw nd0
  revert nd1 hD hle
  generalize (D,lst ys)::add++led=led2
  intro nd1 hD hle
  refine J.tupD rfl rfl rfl rfl (by decide) (.cons rfl (.list0 fun O hO=>.cons rfl (.list0 fun P hP=>.cons rfl (.addL (.pure tb0 ?pr)))))
  case pr=>
   walk_at "s"
   intro _
   refine .list0 fun T hT=>⟨r,T,ps,[],cr,0,rfl,rfl,.tail _ (.tail _ (.tail _ (.tail _ (.tail _ (.tail _ (hle _ hrr)))))),.head _,by rw[intsAre_len hps,hp6];decide,fun H hH=>.nil ⟨rfl,.loc rfl (.cel 5 rfl rfl rfl ?nn (.loc rfl ⟨rfl,?_⟩))⟩⟩
   case nn=>exact .cons hH (.cons hT (.cons hP (.cons hO nd1)))
   have ndA:=Nd.sub (.cons₂ _ (.cons _ (.refl _))) (Nd.cons (o:=listOf ps.toArray 0) hH (.cons (o:=listOf ([]:List Value).toArray 0) hT (.cons (o:=listOf ([]:List Value).toArray 0) hP (.cons (o:=listOf ([]:List Value).toArray 0) hO nd1))))
   rw[List.append_nil]
   have nd2:Nd ((H,listOf ps.toArray 0)::(P,listOf ([]:List Value).toArray 0)::(O,listOf ([]:List Value).toArray 0)::(L'+1+1+1,celO ok none)::(L'+1+1,celO op (some (.ref P)))::(L'+1,celO oc (some (.ref D)))::led2):=ndA
   refine J.sub (nw':=(H,listOf ps.toArray 0)::(P,listOf ([]:List Value).toArray 0)::(O,listOf ([]:List Value).toArray 0)::(L'+1+1+1,celO ok none)::(L'+1+1,celO op (some (.ref P)))::(L'+1,celO oc (some (.ref D)))::led2) (fun q hq=>by
    rcases List.mem_cons.mp hq with rfl|hq
    ·exact .head _
    ·exact .tail _ (.tail _ hq)) ?_
   clear hH hT hP hO nd1 tbA ndA
   refine J.gen [(ofString "over",.ref O),(ofString "heavy",.ref H)] ⟨rfl,rfl,trivial⟩ fun u2=>?_
   refine J.forC (σ:=(List Value×Nat)×(List Value×Nat)) 6 3 (fun i=>(i:Int)) (fun v c=>(H,listOf ps.toArray 0)::(P,listOf c.1.1.toArray c.1.2)::(O,listOf c.2.1.toArray c.2.2)::(L'+1+1+1,celO ok v)::(L'+1+1,celO op (some (.ref P)))::(L'+1,celO oc (some (.ref D)))::led2) (fun _=>[(ofString "over",.ref O),(ofString "heavy",.ref H)])
    (fun i c=>IntsAre c.1.1 (pileZ (pileAt (lessAt leads) i))/\IntsAre c.2.1 ((List.range i).map (overZ (lessAt leads)))) (([],0),([],0)) (range1 (b:=6) tb0 rfl rfl ?hit) (fun i=>by omega) (by decide) (by decide) hE rfl rfl (fun _ _=>rfl) (fun _ _ _=>rfl) (fun _=>rfl) ⟨rfl,rfl,trivial⟩ ⟨.nil,.nil⟩ nd2 ?turn1 ?done1 fun _ h=>h
   case hit=>walk_at "s";exact rfl
   case turn1=>
    intro i t c u I oI hi hR ndT C1
    obtain⟨⟨pv,pn⟩,ov,on⟩:=c
    obtain⟨hPv,hOv⟩:=hR
    dsimp -zeta only at hPv hOv ndT ⊢
    have hE1:PassesOwn C1.M C1.A C1.env C1.E:=hE
    have hlt:∀q∈pileAt (lessAt leads) i,q<i:=pile_lt _ i
    refine J.whileX (C:=C1) (σ:=List Nat×List Value×Nat) (fun z=>(H,listOf ps.toArray 0)::(P,listOf z.2.1.toArray z.2.2)::(O,listOf ov.toArray on)::(L'+1+1+1,celO ok (some (.int (i:Int) t)))::(L'+1+1,celO op (some (.ref P)))::(L'+1,celO oc (some (.ref D)))::(led2++[(I,oI)])) (fun _=>[(ofString "over",.ref O),(ofString "heavy",.ref H)])
     (fun z=>IntsAre z.2.1 (pileZ z.1)/\popAll (lessAt leads) i z.1=popAll (lessAt leads) i (pileAt (lessAt leads) i)/\(∀q∈z.1,q<i)/\z.1.length<=6) (fun z=>z.1.length) (pileAt (lessAt leads) i,pv,pn) hE1 ⟨rfl,rfl,trivial⟩ ⟨hPv,rfl,hlt,Nat.le_trans (pile_len _ i) (Nat.le_of_lt hi)⟩ ?wturn fun _ h=>h
    intro z u3 hz
    obtain⟨zs,zv,zn⟩:=z
    obtain⟨hI,hpop,hzl,hz6⟩:=hz
    dsimp -zeta only at hI hpop hzl hz6 ⊢
    have tbP:=TbOk.addQ (x:=ofString "pile") (tb0 (C:=C1) (m:=fm u3 [(ofString "over",.ref O),(ofString "heavy",.ref H)]) (nw:=(H,listOf ps.toArray 0)::(P,listOf zv.toArray zn)::(O,listOf ov.toArray on)::(L'+1+1+1,celO ok (some (.int (i:Int) t)))::(L'+1+1,celO op (some (.ref P)))::(L'+1,celO oc (some (.ref D)))::(led2++[(I,oI)]))) (.cellK 4 rfl rfl rfl rfl) (sv:=.nn (pileZ zs)) ⟨zv,zn,.tail _ (.head _),hI⟩
    have tbN:=TbOk.addN (x:=ofString "pile") tbP (.cellK 4 rfl rfl rfl rfl)
    refine⟨zs≠[]/\lessAt leads (zs.headD 0) i=false,BTo.and (BTo.of tbP ?b1) (fun hne=>BTo.one (BTo.ne ?b2)) rfl,?pop,?exit⟩
    case b1=>walk_at "b";exact not_congr pileZ_nil
    case b2=>
     intro Q q
     obtain⟨q0,zs',rfl⟩:=List.exists_cons_of_ne_nil hne
     have hq0:q0<i:=hzl q0 (.head _)
     refine compR (a:=0) (b:=5) 5 (fun j=>.int (j:Int)) (fun j=>decide (colGo (j+1) (leads.getD i []) 0<=colGo (j+1) (leads.getD q0 []) 0)) (range1 tb0 rfl rfl ?h5) (by decide) (by decide) (by decide) rfl (by decide) rfl (by decide) rfl rfl (fun _=>rfl) ?tr fun D2 vs hv hne2=>q D2 vs _ _ (.head _) (fun _ h=>.tail _ h) ?iff
     case h5=>walk_at "s";exact rfl
     case iff=>
      rw[<-List.length_eq_zero_iff,VsDen.len hv,List.length_map,List.length_eq_zero_iff]
      exact less_nil
     case tr=>
      intro j tj Cd E2 nw2 hj hs2 C2 hnm
      rw[Int.zero_add] at hnm
      have hk2:NmIs C2 (fm u3 [(ofString "over",.ref O),(ofString "heavy",.ref H)]) nw2 (ofString "k") (.int (i:Int) t):=.cell rfl (hs2 _ (.tail _ (.tail _ (.tail _ (.head _))))) rfl rfl rfl
      have hp2:NmIs C2 (fm u3 [(ofString "over",.ref O),(ofString "heavy",.ref H)]) nw2 (ofString "pile") (.ref P):=.cell rfl (hs2 _ (.tail _ (.tail _ (.tail _ (.tail _ (.head _)))))) rfl rfl rfl
      have hc2:NmIs C2 (fm u3 [(ofString "over",.ref O),(ofString "heavy",.ref H)]) nw2 (ofString "columns") (.ref D):=.cell rfl (hs2 _ (.tail _ (.tail _ (.tail _ (.tail _ (.tail _ (.head _))))))) rfl rfl rfl
      have tb2:=TbOk.addQ (TbOk.addQ (TbOk.addN (TbOk.addN tb0 hnm) hk2) hp2 (sv:=.nn (pileZ (q0::zs'))) ⟨zv,zn,hs2 _ (.tail _ (.head _)),hI⟩) hc2 (sv:=.mm (pgCols leads)) (hD.up fun q hq=>hs2 _ (.tail _ (.tail _ (.tail _ (.tail _ (.tail _ (.tail _ (List.mem_append_left _ hq))))))))
      refine⟨colGo (j+1) (leads.getD i []) 0<=colGo (j+1) (leads.getD q0 []) 0,BTo.of tb2 ?c1,decide_eq_true_iff.symm,fun _=>EvTo.of tb2 ?c3⟩
      case c3=>walk_at "s";rfl
      case c1=>
       have e3:=pgCols_at leads (q:=q0) (by omega)
       have e4:=pgCols_at leads (q:=i) (by omega)
       have e5:∀x,(pgRow x).length=5:=fun x=>by unfold pgRow;rw[List.length_map,List.length_range]
       have e6:(pgCols leads).length=6:=by unfold pgCols;rw[List.length_map,h6]
       refine' Uc.Bs.holds_c ?jp ?jc ?_
       case jp=>exact rfl
       case jc=>
        rw[pileZ_last,e6,Int.toNat_natCast,Int.toNat_natCast,e3,e4,e5,e5,pileZ_len]
        rw[List.length_cons] at hz6 ⊢
        omega
       rw[pileZ_last,Int.toNat_natCast,Int.toNat_natCast,Int.toNat_natCast,e3,e4,pgRow_at _ hj,pgRow_at _ hj]
       exact Int.ofNat_le
    case pop=>
     intro hpp C3
     obtain⟨q0,zs',rfl⟩:=List.exists_cons_of_ne_nil hpp.1
     refine J.popK (C:=C3) 1 (TbOk.setQ tbN) ndT rfl rfl (by rw[intsAre_len hI,pileZ_len];exact Nat.le_trans hz6 (by decide)) (by rw[intsAre_len hI,pileZ_len];exact Nat.succ_pos _) rfl rfl rfl ?_
     exact J.turn (zs',zv.dropLast,zn+1) ⟨rfl,rfl,trivial⟩ ⟨by have:=intsAre_dl hI;rw[pileZ_dl] at this;exact this,(pop_ne _ _ _ _ hpp.2).symm.trans hpop,fun q hq=>hzl q (.tail _ hq),Nat.le_of_succ_le hz6⟩ (Nat.lt_succ_self _) fun _ h=>h
    case exit=>
     intro hnp
     have hz:popAll (lessAt leads) i (pileAt (lessAt leads) i)=zs:=by
      rw[<-hpop]
      refine pop_eq _ _ ?_
      rcases zs with _|⟨q0,zs'⟩
      ·exact .inl rfl
      ·refine .inr ?_
       cases e:lessAt leads ((q0::zs').headD 0) i with
       |true=>rfl
       |false=>exact absurd ⟨List.cons_ne_nil _ _,e⟩ hnp
     have hlo:=intsAre_len hOv
     rw[List.length_map,List.length_range] at hlo
     refine J.appK 2 tbP ndT rfl rfl rfl (by omega) rfl rfl rfl (v:=.int (overZ (lessAt leads) i)) (EvTo.of tbP ?val) fun t2=>?_
     case val=>
      refine' Uc.Rs.holds_c ?jp ?jc ?_
      case jp=>exact rfl
      case jc=>
       intro hne
       rw[pileZ_len]
       refine⟨?_,Nat.le_trans hz6 (by decide)⟩
       rw[<-pileZ_len]
       exact List.length_pos_iff.mpr hne
      exact congrArg PV.int (overZ_is _ _ _ hz _)
     have tbK:=TbOk.addN (x:=ofString "pile") (TbOk.addN (x:=ofString "k") (tb0 (C:=C1) (m:=fm u3 [(ofString "over",.ref O),(ofString "heavy",.ref H)]) (nw:=(H,listOf ps.toArray 0)::(P,listOf zv.toArray zn)::(O,listOf (ov++[Value.int (overZ (lessAt leads) i) t2]).toArray (on+1))::(L'+1+1+1,celO ok (some (.int (i:Int) t)))::(L'+1+1,celO op (some (.ref P)))::(L'+1,celO oc (some (.ref D)))::(led2++[(I,oI)]))) (.cellK 3 rfl rfl rfl rfl)) (.cellK 4 rfl rfl rfl rfl)
     refine J.appK 1 tbK ndT rfl rfl rfl (by rw[intsAre_len hI,pileZ_len];exact Nat.le_trans hz6 (by decide)) rfl rfl rfl (v:=.int (i:Int)) (EvTo.of tbK ?val) fun t3=>?_
     case val=>walk_at "s";rfl
     refine J.tnC ((zv++[Value.int (i:Int) t3],zn+1),(ov++[Value.int (overZ (lessAt leads) i) t2],on+1)) (some (.int (i:Int) t)) ⟨rfl,rfl,trivial⟩ ⟨?_,?_⟩ ndT fun _ h=>h
     ·show IntsAre _ (pileZ (i::popAll (lessAt leads) i (pileAt (lessAt leads) i)))
      rw[hz,pileZ_cons]
      exact IntsAre.append hI (.cons _ _ .nil)
     ·rw[List.range_succ,List.map_append]
      exact IntsAre.append hOv (.cons _ _ .nil)
   case done1=>
    intro z u v hz ndD
    obtain⟨⟨pv,pn⟩,ov,on⟩:=z
    obtain⟨_,hOv⟩:=hz
    dsimp -zeta only at hOv ndD ⊢
    have hT5:∀k,0<k->k<6->0∈popAll (lessAt leads) k (pileAt (lessAt leads) k):=fun k h1 h2=>pop_zero _ k (h0 k h1 h2) _ (pile_zero _ (n:=6) h0 k h1 (Nat.le_of_lt h2))
    obtain⟨T,hT⟩:∃T,T=(List.range 6).map (aboveAt (lessAt leads)):=⟨_,rfl⟩
    rw[<-hT] at ret
    refine J.forC (σ:=List Value×Nat) 5 3 (fun i=>5-(i:Int)) (fun v c=>(H,listOf c.1.toArray c.2)::(P,listOf pv.toArray pn)::(O,listOf ov.toArray on)::(L'+1+1+1,celO ok v)::(L'+1+1,celO op (some (.ref P)))::(L'+1,celO oc (some (.ref D)))::led2) (fun _=>[(ofString "over",.ref O),(ofString "heavy",.ref H)])
     (fun i c=>IntsAre c.1 ((List.range 6).map (carry T (fun k=>pr.getD k 0) i))) (ps,0) (range3 (a:=5) (b:=0) (c:= -1) tb0 rfl rfl rfl rfl (by decide) ?ha ?hb ?hc) (fun i=>by omega) (by decide) (by decide) hE rfl rfl (fun _ _=>rfl) (fun _ _ _=>rfl) (fun _=>rfl) ⟨rfl,rfl,trivial⟩ (by have:=list_rng pr hp6;show IntsAre ps ((List.range 6).map fun k=>pr.getD k 0);rw[this];exact hps) ndD ?turn2 ?done2 fun _ h=>h
    case ha=>walk_at "s";rfl
    case hb=>walk_at "s";rfl
    case hc=>walk_at "s";rfl
    case turn2=>
     intro i t c u I oI hi hR ndT C1
     obtain⟨hv,hn⟩:=c
     dsimp -zeta only at hR ndT ⊢
     have hk:((5-i:Nat):Int)=5-(i:Int):=by omega
     have hTa:T.getD (5-i) 0=aboveAt (lessAt leads) (5-i):=by rw[hT];exact rngN_at _ (by omega)
     have hOa:((List.range 6).map (overZ (lessAt leads))).getD (5-(i:Int)).toNat 0=((aboveAt (lessAt leads) (5-i):Nat):Int):=by
      rw[<-hk,Int.toNat_natCast,rng_at _ (by omega)]
      exact overZ_at _ (hT5 _ (by omega) (by omega))
     have ha:aboveAt (lessAt leads) (5-i)<5-i:=above_lt _ (n:=6) h0 (by omega) (by omega)
     have e6:∀f:Nat->Int,((List.range 6).map f).length=6:=fun f=>by rw[List.length_map,List.length_range]
     have hvl:hv.length=6:=by rw[intsAre_len hR,e6]
     have tbH:=TbOk.addQ (x:=ofString "over") (TbOk.addQ (x:=ofString "heavy") (TbOk.addN (x:=ofString "k") (tb0 (C:=C1) (m:=fm u [(ofString "over",.ref O),(ofString "heavy",.ref H)]) (nw:=(H,listOf hv.toArray hn)::((P,listOf pv.toArray pn)::(O,listOf ov.toArray on)::(L'+1+1+1,celO ok (some (.int (5-(i:Int)) t)))::(L'+1+1,celO op (some (.ref P)))::(L'+1,celO oc (some (.ref D)))::(led2++[(I,oI)])))) (.cellK 3 rfl rfl rfl rfl)) (.loc rfl rfl rfl) (sv:=.nn ((List.range 6).map (carry T (fun k=>pr.getD k 0) i))) ⟨hv,hn,.head _,hR⟩) (.loc rfl rfl rfl) (sv:=.nn ((List.range 6).map (overZ (lessAt leads)))) ⟨ov,on,.tail _ (.tail _ (.head _)),hOv⟩
     refine J.seti (k:=aboveAt (lessAt leads) (5-i)) (v:=carry T (fun k=>pr.getD k 0) i (aboveAt (lessAt leads) (5-i))+carry T (fun k=>pr.getD k 0) i (5-i)) tbH ?he rfl ?hi ⟨by omega,by omega⟩ (fun q hq e=>(List.nodup_cons.mp ndT).1 (List.mem_map.mpr ⟨q,hq,e⟩)) rfl fun t2=>?_
     case he=>
      refine' Uc.Rs.holds_c ?jp ?jc ?_
      case jp=>exact rfl
      case jc=>
       rw[hOa,e6,e6]
       omega
      rw[hOa,Int.toNat_natCast, <-hk,Int.toNat_natCast,rng_at _ (by omega),rng_at _ (by omega)]
     case hi=>
      refine' Uc.Rs.holds_c ?jp ?jc ?_
      case jp=>exact rfl
      case jc=>
       rw[e6]
       omega
      rw[hOa]
     refine J.tnC (hv.set (aboveAt (lessAt leads) (5-i)) (Value.int _ t2),hn) (some (.int (5-(i:Int)) t)) ⟨rfl,rfl,trivial⟩ ?_ ndT fun _ h=>h
     have:=intsAre_set (carry T (fun k=>pr.getD k 0) i (aboveAt (lessAt leads) (5-i))+carry T (fun k=>pr.getD k 0) i (5-i)) t2 hR (aboveAt (lessAt leads) (5-i))
     rw[carry_set T _ hTa (by omega)] at this
     exact this
    case done2=>
     intro c u v hR ndD2
     obtain⟨hv,hn⟩:=c
     dsimp -zeta only at hR ndD2 ⊢
     have tbE:=TbOk.addN (x:=ofString "columns") (tb0 (C:=C) (m:=fm u [(ofString "over",.ref O),(ofString "heavy",.ref H)]) (nw:=(H,listOf hv.toArray hn)::(P,listOf pv.toArray pn)::(O,listOf ov.toArray on)::(L'+1+1+1,celO ok v)::(L'+1+1,celO op (some (.ref P)))::(L'+1,celO oc (some (.ref D)))::led2)) (.cellK 5 rfl rfl rfl rfl)
     refine J.retR (.tup (.pure rfl tbE ?_))
     walk_at "s"
     intro _
     refine .pure rfl tbE ?_
     walk_at "s"
     intro _
     refine .pure rfl tbE ?_
     walk_at "s"
     intro _
     refine .nil ⟨(by show 3<=10000;decide),fun Tt hTt h tk F N=>ret ⟨Tt,D,O,H,0,rfl,.head _,hD.up fun q hq=>.tail _ (.tail _ (.tail _ (.tail _ (.tail _ (.tail _ (.tail _ hq)))))),⟨ov,on,.tail _ (.tail _ (.tail _ (.head _))),hOv⟩,⟨hv,hn,.tail _ (.head _),hR⟩,fun q hq=>.tail _ (.tail _ (.tail _ (.tail _ (.tail _ (.tail _ (.tail _ (hle q hq)))))))⟩ F N⟩
end
end Uc
end
section
namespace Uc
noncomputable def ls0:Stmt:=by
 refine(fun(_:f22_body[0]? =some (.Assign ?a ?b ?c))=>.Assign ?a ?b ?c) ?h
 exact rfl
noncomputable def ls1:Stmt:=by
 refine(fun(_:f22_body[1]? =some (.Assign ?a ?b ?c))=>.Assign ?a ?b ?c) ?h
 exact rfl
noncomputable def ls2:Stmt:=by
 refine(fun(_:f22_body[2]? =some (.Assign ?a ?b ?c))=>.Assign ?a ?b ?c) ?h
 exact rfl
noncomputable def ls3:Stmt:=by
 refine(fun(_:f22_body[3]? =some (.For ?a ?b ?c ?d ?e))=>.For ?a ?b ?c ?d ?e) ?h
 exact rfl
noncomputable def ls4:Stmt:=by
 refine(fun(_:f22_body[4]? =some (.Assign ?a ?b ?c))=>.Assign ?a ?b ?c) ?h
 exact rfl
noncomputable def ls5:Stmt:=by
 refine(fun(_:f22_body[5]? =some (.Assign ?a ?b ?c))=>.Assign ?a ?b ?c) ?h
 exact rfl
noncomputable def ls6:Stmt:=by
 refine(fun(_:f22_body[6]? =some (.For ?a ?b ?c ?d ?e))=>.For ?a ?b ?c ?d ?e) ?h
 exact rfl
noncomputable def ls7:Stmt:=by
 refine(fun(_:f22_body[7]? =some (.For ?a ?b ?c ?d ?e))=>.For ?a ?b ?c ?d ?e) ?h
 exact rfl
noncomputable def ls8:Stmt:=by
 refine(fun(_:f22_body[8]? =some (.Assign ?a ?b ?c))=>.Assign ?a ?b ?c) ?h
 exact rfl
noncomputable def ls9:Stmt:=by
 refine(fun(_:f22_body[9]? =some (.For ?a ?b ?c ?d ?e))=>.For ?a ?b ?c ?d ?e) ?h
 exact rfl
noncomputable def ls10:Stmt:=by
 refine(fun(_:f22_body[10]? =some (.Assign ?a ?b ?c))=>.Assign ?a ?b ?c) ?h
 exact rfl
noncomputable def ls11:Stmt:=by
 refine(fun(_:f22_body[11]? =some (.If ?a ?b ?c ?d))=>.If ?a ?b ?c ?d) ?h
 exact rfl
noncomputable def ls12:Stmt:=by
 refine(fun(_:f22_body[12]? =some (.If ?a ?b ?c ?d))=>.If ?a ?b ?c ?d) ?h
 exact rfl
noncomputable def ls13:Stmt:=by
 refine(fun(_:f22_body[13]? =some (.Assign ?a ?b ?c))=>.Assign ?a ?b ?c) ?h
 exact rfl
noncomputable def ls14:Stmt:=by
 refine(fun(_:f22_body[14]? =some (.While ?a ?b ?c ?d))=>.While ?a ?b ?c ?d) ?h
 exact rfl
noncomputable def ls15:Stmt:=by
 refine(fun(_:f22_body[15]? =some (.Assign ?a ?b ?c))=>.Assign ?a ?b ?c) ?h
 exact rfl
noncomputable def ls16:Stmt:=by
 refine(fun(_:f22_body[16]? =some (.For ?a ?b ?c ?d ?e))=>.For ?a ?b ?c ?d ?e) ?h
 exact rfl
noncomputable def ls17:Stmt:=by
 refine(fun(_:f22_body[17]? =some (.Return ?a ?b))=>.Return ?a ?b) ?h
 exact rfl
theorem law_stmts:f22_body=[ls0,ls1,ls2,ls3,ls4,ls5,ls6,ls7,ls8,ls9,ls10,ls11,ls12,ls13,ls14,ls15,ls16,ls17]:=by rfl
noncomputable abbrev lawCl (L:Addr):List (Str×Addr):=[(ofString "heavy",L+13),(ofString "over",L+12),(ofString "columns",L+11),(ofString "told",L+10),(ofString "off",L+9),(ofString "above",L+8),(ofString "lexer",L+7),(ofString "place",L+6),(ofString "numbers",L+5),(ofString "k",L+4),(ofString "names",L+3),(ofString "firsts",L+2),(ofString "script",L+1)]
noncomputable abbrev lawEnv (L fa:Addr)(cd:Value):Env:=envX (ofString "law") f22_scope L fa cd (lawCl L)
set_option genInjectivity false in
set_option genSizeOf false in
structure LP where
 w:World
 A:Around
 E:Value->Shared->Prop
 h₀:Heap
 L:Addr
 s:Shared
 fa:Addr
 cd:Value
 Q:Flow->Shared->Prop
 o:Nat->Obj
 hh:A.handled=none
 hu:A.units<cLine
 hG:GlOk Challenge.rw_uc0057_02.prog w h₀ glob
noncomputable abbrev LP.C (P:LP):Cx:=⟨Challenge.rw_uc0057_02.prog,P.w,P.A,P.E,P.h₀,P.L,P.s,glob,lawEnv P.L P.fa P.cd,true,P.Q,rfl,rfl,rfl,fun _=>rfl,P.hh,P.hu,P.hG⟩
set_option genInjectivity false in
set_option genSizeOf false in
structure CV where
 sc:Option Value
 fi:Option Value
 na:Option Value
 k:Option Value
 nu:Option Value
 pl:Option Value
 lx:Option Value
 ab:Option Value
 off:Option Value
 to:Option Value
 co:Option Value
 ov:Option Value
 he:Option Value
noncomputable abbrev cls (P:LP)(V:CV):Led:=[(P.L+1,celO (P.o 1) V.sc),(P.L+2,celO (P.o 2) V.fi),(P.L+3,celO (P.o 3) V.na),(P.L+4,celO (P.o 4) V.k),(P.L+5,celO (P.o 5) V.nu),(P.L+6,celO (P.o 6) V.pl),(P.L+7,celO (P.o 7) V.lx),(P.L+8,celO (P.o 8) V.ab),(P.L+9,celO (P.o 9) V.off),(P.L+10,celO (P.o 10) V.to),(P.L+11,celO (P.o 11) V.co),(P.L+12,celO (P.o 12) V.ov),(P.L+13,celO (P.o 13) V.he)]
theorem NmIs.cellV {C:Cx}{m:Str->Option Value}{nw:Led}{x:Str}{v:Value}{v₀:Option Value}{c:Addr}{o:Obj}(k:Nat)(hv:v₀=some v)(hc:C.env.cells.lookup x=some c)(hk:nw[k]? =some (c,celO o v₀))(hx:C.env.kindOf x=some .cell)(hd:(x==ofString "__debug__")=false):NmIs C m nw x v:=by
 subst hv
 exact .cellK k hc hk hx hd
theorem NmIs.cellU {C:Cx}{m:Str->Option Value}{nw nw':Led}{x:Str}{v:Value}{v₀:Option Value}{c:Addr}{o:Obj}(k:Nat)(hv:v₀=some v)(hs:∀p∈nw,p∈nw')(hc:C.env.cells.lookup x=some c)(hk:nw[k]? =some (c,celO o v₀))(hx:C.env.kindOf x=some .cell)(hd:(x==ofString "__debug__")=false):NmIs C m nw' x v:=by
 subst hv
 exact .cell hc (hs _ (List.mem_of_getElem? hk)) rfl hx hd
theorem EvTo.bin {C:Cx}{m:Str->Option Value}{nw:Led}{l r:Expr}{op:Operator}{p:Pos}{a b v:PV}(h1:EvTo C m nw l a)(h2:EvTo C m nw r b)(h:(pBin op a b).holds fun z=>z=v):EvTo C m nw (.BinOp l op r p) v:=fun Q q h0 tk F N=>by
 refine wpAny_BinOp (h1 _ (fun t1 h1 tk1 F1 N1=>?_) h0 tk F N)
 refine h2 _ (fun t2 h2 tk2 F2 N2=>?_) h1 tk1 F1 N1
 exact binop_ok (s:=C.sg h2 tk2) (Rs.mono (fun z e tk3 t3=>by rw[e];exact q t3 h2 tk3 F2 N2) h)
end Uc
end
section
namespace Uc
open PyProof.Rows.LCg
theorem mem_front {A B r:Led}{p:Addr×Obj}(h:p∈A++(B++r)):p∈B++(A++r):=(List.perm_append_comm_assoc A B r).mem_iff.mp h
noncomputable def firsts2:List Int:=[128,64,329,513,196,518]
noncomputable def names2:List Str:=[ofString "ffi",ofString "ff",ofString "fi",ofString "f",ofString "i",ofString "ii"]
section
variable {P:LP}{V:CV}{led:Led}{m:Str->Option Value}{rest:List Stmt}{ks:List (List Stmt)}
theorem law_s0 (nd:Nd (cls P V++led))
  (h:∀N F nv fv,StrsAre nv names2->IntsAre fv firsts2->Nd (cls P { V with fi:=some (.ref F),na:=some (.ref N) }++((N,listOf nv.toArray 0)::(F,listOf fv.toArray 0)::led))->J P.C m (cls P { V with fi:=some (.ref F),na:=some (.ref N) }++((N,listOf nv.toArray 0)::(F,listOf fv.toArray 0)::led)) rest ks):
  J P.C m (cls P V++led) (ls0::rest) ks:=by
 unfold ls0
 (refine' Uc.J.tupD ?_ ?_ ?_ ?_ ?_ ?_;exact rfl;exact rfl;exact rfl;exact rfl;decide)
 (refine' Uc.SpL.cons ?_ ?_;exact rfl)
 refine EvR.listV (firsts2.map PV.int) tb0 (by decide) ?_ fun F fv hfv hF=>?_
 ·(repeat' (first|exact rfl|refine⟨_,_,rfl,rfl,?_,?_⟩))
 (refine' Uc.SpL.cons ?_ ?_;exact rfl)
 refine EvR.listV (names2.map PV.str) tb0 (by decide) ?_ fun N nv hnv hN=>?_
 ·(repeat' (first|exact rfl|refine⟨_,_,rfl,rfl,?_,?_⟩))
 refine SpL.nil ⟨rfl,?_⟩
 have nd1:Nd ((N,listOf nv.toArray 0)::(F,listOf fv.toArray 0)::(cls P V++led)):=Nd.cons hN (Nd.cons hF nd)
 refine' StsE.cel (c:=P.L+2) (o:=P.o 2) (v₀:=V.fi) 3 ?_ ?_ ?_ nd1 ?_
 exact rfl;exact rfl;exact rfl
 refine' StsE.cel (c:=P.L+3) (o:=P.o 3) (v₀:=V.na) 4 ?_ ?_ ?_ nd1 ⟨rfl,?_⟩
 exact rfl;exact rfl;exact rfl
 exact J.sub (fun p hp=>mem_front (A:=cls P { V with fi:=some (.ref F),na:=some (.ref N) }) (B:=[(N,listOf nv.toArray 0),(F,listOf fv.toArray 0)]) hp) (h N F _ _ hnv.strs hfv.ints (Nd.front (B:=cls P { V with fi:=some (.ref F),na:=some (.ref N) }) (A:=[(N,listOf nv.toArray 0),(F,listOf fv.toArray 0)]) nd1))
end
theorem EvTo.sumSl {C:Cx}{m:Str->Option Value}{nw:Led}{tb:Tb}{x:Str}{e:Expr}{kk:Nat}{p1 p2 p3 p4 p5 p6:Pos}{a:Addr}{vs:List Value}{ms:List Int}{k st:Int}(ht:TbOk C m nw tb)(hsum:pNm C.env m tb (ofString "sum")=some (.builtin "sum"))(hx:NmIs C m nw x (.ref a))(hl:C.h₀.IsList a vs.toArray)(hI:IntsAre (slicePick vs.toArray (some k) none (some st)).toList ms)
  (he:(C.pH m tb (some e)).holds fun v=>v=some k) (hst:st≠0) (hz:vs.length<=1000):EvTo C m nw (.Call (.Name (ofString "sum") p1) [.Subscript (.Name x p2) (.Slice (some e) none (some (.Constant (.int st) kk p3)) p4) p5] [] p6) (.int ms.sum):=fun Q q h tk F N=>by
 refine Call_ (nm_ok ht hsum _ _ (fun h0 tk0 F0 N0=>?_) h tk F N)
 refine PyProof.Rows.callWith_builtin1 (args_cons ?_ rfl) rfl rfl
 refine Subscript_ (hx.ev _ _ (fun h1 tk1 F1 N1=>?_) h0 tk0 F0 N0)
 refine wpAny_Slice ((pv_all ht 30).2.2 (some e) _ (Hs.mono (fun o eo v hv h2 tk2 F2 N2=>?_) he) h1 tk1 F1 N1)
 subst eo
 refine evalPart_none_step (evalPart_some_step (wpAny_Constant_int ?_))
 obtain⟨tv,rfl⟩:=hv
 refine slice_list3 (s:=C.sg h2 (tk2+1)) (hsz:=by rw[List.size_toArray];exact Nat.le_trans hz (by decide)) F2 N2 (F2.lst hl) (IsPart.int _ _) IsPart.none (IsPart.int _ _) (fun z=>hst (Option.some.inj z)) (fun h3 F3 N3=>?_) rfl fun _=>rfl
 refine args_nil (PyProof.Rows.LSm.sum_ints (s:=C.sg h3 (tk2+1)) (vs:=(slicePick vs.toArray (some k) none (some st)).toList) F3 N3 C.hh (by rw[Array.toArray_toList];exact News.isList N3 (.head _)) hI fun h4 tk4 t4 F4 N4=>q t4 h4 tk4 F4 (News.sub N4 fun _ z=>.tail _ z))
section
variable {P:LP}{V:CV}{led:Led}{m:Str->Option Value}{rest:List Stmt}{ks:List (List Stmt)}
theorem names2_at {k:Nat}(h:k<6):names2.getD k Str.empty=mkL (pageN.getD k []):=by
 revert k
 decide+kernel
theorem pick_ints {vs:List Value}{ns:List Int}(h:IntsAre vs ns)(k:Int):∃ms,IntsAre (slicePick vs.toArray (some k) none (some 6)).toList ms:=⟨_,by
 unfold slicePick
 rw[List.toList_toArray]
 exact intsAre_pick h _⟩
theorem firsts_at {i:Nat}(h:i<6):(6:Int)=((firsts2.length:Nat):Int)/\(i:Int)<((firsts2.length:Nat):Int):=⟨rfl,by show(i:Int)<6;omega⟩
theorem law_s1 {sc F:Addr}{vs fv:List Value}{ns:List Int}{nf:Nat}(nd:Nd (cls P V++led))(hV:V.sc=some (.ref sc))(hF:V.fi=some (.ref F))(hfm:(F,listOf fv.toArray nf)∈led)(hfv:IntsAre fv firsts2)(hsc:P.h₀.IsList sc vs.toArray)(hI:IntsAre vs ns)(hlen:vs.length<=63)
  (h:∀D nv (nums:List Nat),nums.length=6->(∀n∈nums,n<1000000)->IntsAre nv (nums.map fun(n:Nat)=>(n:Int))->Nd (cls P { V with nu:=some (.ref D) }++((D,lst nv)::led))->J P.C m (cls P { V with nu:=some (.ref D) }++((D,lst nv)::led)) rest ks):
  J P.C m (cls P V++led) (ls1::rest) ks:=by
 unfold ls1
 have key:∀i:Nat,∃ms,IntsAre (slicePick vs.toArray (some (i:Int)) none (some 6)).toList ms:=fun i=>pick_ints hI _
 obtain⟨ms,hms⟩:=Classical.skolem.mp key
 have key2:∀i:Nat,∃k:Nat,k<1000000/\(firsts2.getD i 0+(ms i).sum).fmod (10^Int.toNat 6)=(k:Int):=fun i=>mod_million _
 obtain⟨nm,hnm⟩:=Classical.skolem.mp key2
 refine' J.asgRK ?_ ?_ ?_
 ·exact rfl
 ·exact rfl
 intro Q q
 (refine' Uc.compR (a:=0) (b:=6) 6 (fun i=>.int (nm i:Int)) (fun _=>true) ?ahit ?asm ?ars ?ahz ?acl ?acell ?akind ?anames ?ax ?axd ?as ?aturn ?aq;(case acl=>exact rfl);(case acell=>decide);(case akind=>exact rfl);(case anames=>decide);(case ax=>exact rfl);(case axd=>exact rfl);(case as=>exact fun _=>rfl);(case' asm=>try decide);(case' ars=>try decide);(case' ahz=>try decide))
 case ahit=>
  refine range1 tb0 ?_ ?_ ?_
  ·exact rfl
  ·exact rfl
  walk_at "s"
  exact rfl
 case aturn=>
  intro i t Cc E' nw' hi hs C2 hnm2
  rw[Int.zero_add] at hnm2
  have hf2:NmIs C2 m nw' (ofString "firsts") (.ref F):=.cellU 1 hF hs rfl rfl rfl rfl
  have hs2:NmIs C2 m nw' (ofString "script") (.ref sc):=.cellU 0 hV hs rfl rfl rfl rfl
  have tb2:=TbOk.addQ (TbOk.addN (tb0 (C:=C2) (m:=m) (nw:=nw')) hnm2) hf2 (sv:=.nn firsts2) ⟨fv,nf,hs _ (List.mem_append_right _ hfm),hfv⟩
  refine⟨rfl,EvTo.bin (EvTo.bin (a:=.int (firsts2.getD i 0)) (b:=.int (ms i).sum) (v:=.int (firsts2.getD i 0+(ms i).sum)) (EvTo.of tb2 ?e1) (EvTo.sumSl (k:=(i:Int)) tb2 ?e2 hs2 hsc (hms i) ?e3 (by decide) (by omega)) ?e4) (b:=.int (10^Int.toNat 6)) (EvTo.of tb2 ?e5) ?e6⟩
  case e1=>
   refine' Uc.Rs.holds_c ?jp ?jc ?_
   case jp=>exact rfl
   case jc=>exact⟨by decide,by omega,(firsts_at hi).2⟩
   rw[Int.toNat_natCast]
  case e2=>exact rfl
  case e3=>exact rfl
  case e4=>exact rfl
  case e5=>
   refine' Uc.Rs.holds_c ?jp ?jc ?_
   case jp=>exact rfl
   case jc=>decide
   exact rfl
  case e6=>
   refine⟨by decide,?_⟩
   rw[(hnm i).2]
 case aq=>
  intro D nv hv hD
  have hvI:IntsAre nv (((List.range 6).map nm).map fun(n:Nat)=>(n:Int)):=VsDen.ints (ns:=((List.range 6).map nm).map fun(n:Nat)=>(n:Int)) hv
  have nd1:Nd ((D,lst nv)::(cls P V++led)):=Nd.cons hD nd
  have nd2:Nd (cls P V++((D,lst nv)::led)):=Nd.front (A:=[(D,lst nv)]) (B:=cls P V) nd1
  refine q _ _ ⟨cls P V++((D,lst nv)::led),4,P.L+5,P.o 5,V.nu,fun z hz=>mem_front (A:=cls P V) (B:=[(D,lst nv)]) hz,rfl,rfl,nd2,h D nv ((List.range 6).map nm) (by simp) (fun n hn=>?_) hvI nd2⟩
  obtain⟨i,_,rfl⟩:=List.mem_map.mp hn
  exact(hnm i).1
theorem law_s2 (nd:Nd (cls P V++led))
  (h:∀a b t,Nd (cls P V++((b,listOf ([]:List Value).toArray 0)::(a,listOf ([]:List Value).toArray 0)::led))->J P.C (up (up (up m (ofString "text") (.str (mkL []) t)) (ofString "prices") (.ref b)) (ofString "leads") (.ref a)) (cls P V++((b,listOf ([]:List Value).toArray 0)::(a,listOf ([]:List Value).toArray 0)::led)) rest ks):
  J P.C m (cls P V++led) (ls2::rest) ks:=by
 unfold ls2
 refine' J.tupS (names:=[ofString "leads",ofString "prices",ofString "text"]) ?_ ?_ ?_ ?_ ?_
 ·exact rfl
 ·exact rfl
 ·decide
 ·intro x hx
  simp only[List.mem_cons,List.not_mem_nil,or_false] at hx
  rcases hx with rfl|rfl|rfl<;>exact rfl
 (refine' Uc.SpL.cons ?_ ?_;exact rfl)
 refine EvR.list0 fun a ha=>?_
 (refine' Uc.SpL.cons ?_ ?_;exact rfl)
 refine EvR.list0 fun b hb=>?_
 (refine' Uc.SpL.pure ?_ (tb0) ?_;exact rfl;walk_at "s")
 intro t
 have nd1:Nd ((b,listOf ([]:List Value).toArray 0)::(a,listOf ([]:List Value).toArray 0)::(cls P V++led)):=Nd.cons hb (Nd.cons ha nd)
 exact SpL.nil ⟨rfl,J.sub (fun p hp=>mem_front (A:=cls P V) (B:=[(b,listOf ([]:List Value).toArray 0),(a,listOf ([]:List Value).toArray 0)]) hp) (h a b t (Nd.front (B:=cls P V) (A:=[(b,listOf ([]:List Value).toArray 0),(a,listOf ([]:List Value).toArray 0)]) nd1))⟩
end
end Uc
end
section
namespace Uc
open PyProof.Rows.LCg PySem.Calls
noncomputable abbrev rgO (a b c:Int)(t u v:Tok):Obj:={ cls:=.type "range",dict:=none,data:=.fields #[.int a t,.int b u,.int c v],slots:=#[] }
section
variable {C:Cx}{m:Str->Option Value}{nw:Led}{tb:Tb}
theorem EvR.range1 {x:Str}{p p':Pos}{e:Expr}{b:Int}{R:Value->Led->Prop}(ht:TbOk C m nw tb)(hx:pNm C.env m tb x=some (.type "range"))(he:plainArg e=true)(hb:(C.pV m tb e).holds fun v=>v=.int b)
  (h:∀r t u v,(∀p∈nw,p.1≠r)->R (.ref r) ((r,rgO 0 b 1 t u v)::nw)):EvR C m nw (.Call (.Name x p) [e] [] p') R:=fun Q q h0 tk F N=>by
 refine Call_ (nm_ok ht hx p _ (fun h0 tk0 F0 N0=>Pv.callWith_type1 (args_cons ?_ (star1 he)) (star1 he)) h0 tk F N)
 refine(pv_all ht 30).1 e _ (Rs.mono (fun v e1 t h1 tk1 F1 N1=>?_) hb) _ _ F0 N0
 subst e1
 refine args_nil (range1_rows (s:=C.sg h1 tk1) F1 N1 fun h2 tk2 t1 u1 v1 hr F2 N2 _=>q _ _ (h h1.objs.size t1 u1 v1 fun p hp=>Nat.ne_of_lt (Heap.lt_size (N1 p hp).1)) h2 tk2 F2 fun p hp=>?_)
 rcases List.mem_cons.mp hp with rfl|hp
 ·exact⟨hr,Ne.symm (Nat.ne_of_lt F1.ns.lt),next_is_new F1⟩
 ·exact N2 p hp
theorem RangeIs.name {x:Str}{p:Pos}{r:Addr}{a b c:Int}{t u v:Tok}(hx:NmIs C m nw x (.ref r))(hm:(r,rgO a b c t u v)∈nw):RangeIs C m nw (.Name x p) a b c:=fun Q q=>hx.ev p Q fun h tk F N=>q r t u v h tk F N (N _ hm).1
theorem EvR.ite {t b o:Expr}{p:Pos}{P:Prop}{R:Value->Led->Prop}(ht:BTo C m nw t P)(h1:P->EvR C m nw b R)(h2:¬ P->EvR C m nw o R):EvR C m nw (.IfExp t b o p) R:=fun Q q h tk F N=>by
 refine IfExp_ (ht _ (fun c hc=>?_) h tk F N)
 cases c with
 |true=>exact h1 (hc.mp rfl) Q q
 |false=>exact h2 (fun z=>Bool.false_ne_true (hc.mpr z)) Q q
theorem EvTo.join {e:Expr} {k:Nat} {p1 p2 p3:Pos} {xs:List Str} {pl:Sem Bool} (hm:eval (.Call (.Attribute (.Constant (.str (ofString "")) k p1) "join" p2) [e] [] p3) C.env=(do
   let ov<-eval (.Constant (.str (ofString "")) k p1) C.env
   standAt p2.atName
   let (f,first)<-holding [ov] (getMethod ov "join" pl)
   callWith p3 f first (backTo p3 (starEach [e] C.env)) [])) (he:plainArg e=true) (hw:(xs.map (·.length)).sum+xs.length<=1000000)
  (h:EvR C m nw e fun v nw'=>∃(D:Addr) (vs:List Value) (n:Nat),v=.ref D/\(D,listOf vs.toArray n)∈nw'/\StrsAre vs xs/\∀p∈nw,p∈nw'):EvTo C m nw (.Call (.Attribute (.Constant (.str (ofString "")) k p1) "join" p2) [e] [] p3) (.str (Txt.join (ofString "") xs)):=fun Q q h0 tk F N=>by
 refine MethodCall_ (Constant_str (PySem.GM.join ?_)) hm
 refine callWith_method1 (args_cons (h _ (fun v nw' hv h1 tk1 F1 N1=>?_) h0 (tk+1) F N) (star1 he)) (star1 he)
 (refine Uc.ex3 hv fun D vs n=>Uc.an4 fun e1q hmm hx hs=>?_;clear hv;subst e1q)
 refine args_nil (join_listW (News.isList N1 hmm) hx (Nat.zero_le _) (by omega) fun t' k'=>?_)
 exact q t' h1 k' F1 (News.sub N1 hs)
end
end Uc
end
section
namespace Uc
noncomputable def leadOf2 (k n:Nat):List Nat:=if k=0 then[] else(List.range (1+n%4)).map fun p=>if n / 4 / 2^p%2=0 then 32 else 9
noncomputable def lead2 (nums:List Nat)(k:Nat):List Nat:=leadOf2 k (nums.getD k 0)
noncomputable def typ2 (nums:List Nat)(k:Nat):List Nat:=typed2 (pageN.getD k []) (nums.getD k 0 / 64)
noncomputable def pri2 (nums:List Nat)(k:Nat):Nat:=price2 (pageN.getD k []) (nums.getD k 0 / 64)
noncomputable def part2 (nums:List Nat)(k:Nat):List Nat:=spelled2 (lead2 nums k) (typ2 nums k) (nums.getD k 0)
noncomputable def text2 (nums:List Nat)(i:Nat):List Nat:=(List.range i).flatMap (part2 nums)
theorem text2_succ (nums:List Nat)(i:Nat):text2 nums (i+1)=text2 nums i++part2 nums i:=by
 unfold text2
 rw[List.range_succ,List.flatMap_append]
 simp
theorem lead2_ok (nums:List Nat)(k:Nat):(lead2 nums k).length<=4/\∀d∈lead2 nums k,d=32∨d=9:=by
 unfold lead2 leadOf2
 split
 ·exact⟨Nat.zero_le _,fun d hd=>nomatch hd⟩
 ·refine⟨by rw[List.length_map,List.length_range];omega,fun d hd=>?_⟩
  obtain⟨p,_,rfl⟩:=List.mem_map.mp hd
  split
  ·exact .inl rfl
  ·exact .inr rfl
theorem page_mem {k:Nat}(h:k<6):pageN.getD k []∈pageN:=by
 revert k
 decide
theorem typ2_len (nums:List Nat){k:Nat}(h:k<6):(typ2 nums k).length<=3/\pri2 nums k<=6:=by
 have q:=List.all_eq_true.mp (List.all_eq_true.mp price_all _ (page_mem h)) _ (typ_mem (pageN.getD k []).length (pageN.getD k []) (nums.getD k 0 / 64))
 simp only[Bool.and_eq_true,beq_iff_eq,decide_eq_true_eq] at q
 exact⟨q.1.2,q.2⟩
theorem part2_len (nums:List Nat){k:Nat}(h:k<6):(part2 nums k).length<=20:=by
 have a:=(lead2_ok nums k).1
 have b:=(typ2_len nums h).1
 have c:=raw2_len (lead2 nums k) (typ2 nums k) (nums.getD k 0)
 have e:∀l:List Nat,(l.map fun c=>[92,c]).flatten.length=2*l.length:=fun l=>by
  induction l with
  |nil=>rfl
  |cons c l ih=>simp only[List.map_cons,List.flatten_cons,List.length_append,ih,List.length_cons,List.length_nil];omega
 unfold part2 spelled2 quoted2
 rw[List.length_append]
 split
 ·simp only[List.length_append,List.length_cons,List.length_nil];omega
 ·rw[e];simp only[List.length_cons,List.length_nil];omega
theorem text2_len (nums:List Nat):∀i,i<=6->(text2 nums i).length<=20*i
 |0,_=>Nat.le_refl _
 |i+1,h=>by
  rw[text2_succ,List.length_append]
  have a:=text2_len nums i (Nat.le_of_succ_le h)
  have b:=part2_len nums (k:=i) (by omega)
  omega
theorem sign2_is (n p:Nat):Txt.item (ofString " \t") ((((n:Int).fdiv 4).fdiv (2^(p:Int).toNat)).fmod 2)=chr1 (if n / 4 / 2^p%2=0 then 32 else 9):=by
 have e:(((n:Int).fdiv 4).fdiv (2^(p:Int).toNat)).fmod 2=((n / 4 / 2^p%2:Nat):Int):=by
  rw[Int.toNat_natCast,show(n:Int).fdiv 4=((n / 4:Nat):Int) from fdiv_nat n 4,show(2:Int)^p=((2^p:Nat):Int) by push_cast;rfl,show(((n / 4:Nat):Int)).fdiv ((2^p:Nat):Int)=((n / 4 / 2^p:Nat):Int) from fdiv_nat _ _]
  exact fmod_nat _ 2
 rw[e]
 have h:n / 4 / 2^p%2<2:=Nat.mod_lt _ (by decide)
 generalize n / 4 / 2^p%2=z at h
 revert z
 decide+kernel
theorem page_ok {k:Nat}(h:k<6):(pageN.getD k []).length<=3/\∀c∈pageN.getD k [],c=102∨c=105:=by
 revert k
 decide
end Uc
end
section
namespace Uc
open PyProof.Rows.LCg PySem.Calls
section
variable {P:LP}{V:CV}{led:Led}{rest:List Stmt}{ks:List (List Stmt)}{p:Program}{loose:List Str}{mean:ExcName->Option Value}{mg mb:Str->Option Value}
theorem law_s3 {N D a b:Addr}{nv dv:List Value}{nn dn:Nat}{nums:List Nat}{t0:Tok}{u:Str->Option Value}(ok:CxOk P.C p loose mean mg mb (fun h=>CodeHd h 213 209) 30 120)(hE:PassesOwn P.C.M P.C.A P.C.env P.C.E)(hN:V.na=some (.ref N))(hnm:(N,listOf nv.toArray nn)∈led)(hnv:StrsAre nv names2)(hD:V.nu=some (.ref D))(hdm:(D,listOf dv.toArray dn)∈led)(hdv:IntsAre dv (nums.map fun(n:Nat)=>(n:Int)))(h6:nums.length=6)(hb:∀n∈nums,n<1000000)
  (nd:Nd (cls P V++((b,listOf ([]:List Value).toArray 0)::(a,listOf ([]:List Value).toArray 0)::led)))
  (h:∀u v lv ln pv pn t,StrsAre lv ((List.range 6).map fun k=>mkL (lead2 nums k))->IntsAre pv ((List.range 6).map fun k=>((pri2 nums k:Nat):Int))->J P.C (fm u [(ofString "leads",.ref a),(ofString "prices",.ref b),(ofString "text",.str (mkL (text2 nums 6)) t)]) (cls P { V with k:=v }++((b,listOf pv.toArray pn)::(a,listOf lv.toArray ln)::led)) rest ks):
  J P.C (fm u [(ofString "leads",.ref a),(ofString "prices",.ref b),(ofString "text",.str (mkL []) t0)]) (cls P V++((b,listOf ([]:List Value).toArray 0)::(a,listOf ([]:List Value).toArray 0)::led)) (ls3::rest) ks:=by
 unfold ls3
 refine' J.forC (σ:=(List Value×Nat)×(List Value×Nat)×(List Nat×Tok)) (a:=0) (b:=6) (c:=1) (ck:=P.L+4) (o:=P.o 4) (v₀:=V.k) 6 3 (fun i=>(i:Int)) (fun v c=>cls P { V with k:=v }++((b,listOf c.2.1.1.toArray c.2.1.2)::(a,listOf c.1.1.toArray c.1.2)::led)) (fun c=>[(ofString "leads",.ref a),(ofString "prices",.ref b),(ofString "text",.str (mkL c.2.2.1) c.2.2.2)])
  (fun i c=>StrsAre c.1.1 ((List.range i).map fun k=>mkL (lead2 nums k))/\IntsAre c.2.1.1 ((List.range i).map fun k=>((pri2 nums k:Nat):Int))/\c.2.2.1=text2 nums i) (([],0),([],0),([],t0)) ?hit (fun i=>by omega) (by decide) (by decide) hE ?hx ?hc (fun _ _=>rfl) (fun _ _ _=>rfl) ?hs ⟨rfl,rfl,rfl,trivial⟩ ⟨.nil,.nil,rfl⟩ nd ?turn ?done fun _ h=>h
 case hit=>
  refine range1 tb0 ?_ ?_ ?_
  ·exact rfl
  ·exact rfl
  walk_at "s"
  exact rfl
 case hx=>exact rfl
 case hc=>exact rfl
 case hs=>exact fun _=>rfl
 case done=>
  intro z u v hz ndz
  obtain⟨⟨lv,ln⟩,⟨pv,pn⟩,x,t⟩:=z
  obtain⟨h1,h2,h3⟩:=hz
  dsimp -zeta only at h1 h2 h3 ⊢
  rw[h3]
  exact h u v lv ln pv pn t h1 h2
 case turn=>
  intro i t c u I oI hi hR ndT C1
  obtain⟨⟨lv,ln⟩,⟨pv,pn⟩,x,tx⟩:=c
  obtain⟨h1,h2,h3⟩:=hR
  dsimp -zeta only at h1 h2 h3 ndT ⊢
  have ok1:CxOk C1 p loose mean mg mb (fun h=>CodeHd h 213 209) 30 120:=ok.setQ
  have hni:(nums.map fun(n:Nat)=>(n:Int)).getD i 0=((nums.getD i 0:Nat):Int):=by
   rw[List.getD_eq_getElem?_getD,List.getElem?_map,List.getElem?_eq_getElem (by omega),List.getD_eq_getElem?_getD,List.getElem?_eq_getElem (by omega)]
   rfl
  have hnlt:nums.getD i 0<1000000:=by
   rw[List.getD_eq_getElem?_getD,List.getElem?_eq_getElem (by omega)]
   exact hb _ (List.getElem_mem _)
  obtain⟨n,hn⟩:∃n,n=nums.getD i 0:=⟨_,rfl⟩
  rw[<-hn] at hni hnlt
  obtain⟨ledI,hledI⟩:∃l,l=led++[(I,oI)]:=⟨_,rfl⟩
  have hle:∀q∈led,q∈ledI:=fun q hq=>hledI▸List.mem_append_left _ hq
  show J C1 _ (cls P { V with k:=some (.int (i:Int) t) }++((b,listOf pv.toArray pn)::(a,listOf lv.toArray ln)::(led++[(I,oI)]))) _ _
  replace ndT:Nd (cls P { V with k:=some (.int (i:Int) t) }++((b,listOf pv.toArray pn)::(a,listOf lv.toArray ln)::(led++[(I,oI)]))):=ndT
  rw[<-hledI] at ndT ⊢
  have tbK:=TbOk.addQ (x:=ofString "numbers") (TbOk.addN (x:=ofString "k") (tb0 (C:=C1) (m:=fm u [(ofString "leads",.ref a),(ofString "prices",.ref b),(ofString "text",.str (mkL x) tx)]) (nw:=cls P { V with k:=some (.int (i:Int) t) }++((b,listOf pv.toArray pn)::(a,listOf lv.toArray ln)::ledI))) (.cellV 3 rfl rfl rfl rfl rfl)) (.cellV 4 hD rfl rfl rfl rfl) (sv:=.nn (nums.map fun(n:Nat)=>(n:Int))) ⟨dv,dn,List.mem_append_right _ (.tail _ (.tail _ (hle _ hdm))),hdv⟩
  refine' J.asgR ?_ ?_ (EvR.mono (R:=fun v n'=>∃r o,v=.ref r/\n'=(r,o)::(cls P { V with k:=some (.int (i:Int) t) }++((b,listOf pv.toArray pn)::(a,listOf lv.toArray ln)::ledI))/\(∀q∈cls P { V with k:=some (.int (i:Int) t) }++((b,listOf pv.toArray pn)::(a,listOf lv.toArray ln)::ledI),q.1≠r)/\((i=0/\o=listOf ([]:List Value).toArray 0)∨(0<i/\∃t u v,o=rgO 0 ((1+n%4:Nat):Int) 1 t u v))) (EvR.ite (P:=0<i) (BTo.of tbK ?_) (fun hi0=>EvR.range1 tbK ?_ ?_ ?_ fun r t u v hr=>⟨r,_,rfl,rfl,hr,.inr ⟨hi0,t,u,v,rfl⟩⟩) fun hi0=>EvR.list0 fun r hr=>⟨r,_,rfl,rfl,hr,.inl ⟨by omega,rfl⟩⟩) ?_)
  ·exact rfl
  ·exact rfl
  ·walk_at "b"
   omega
  ·exact rfl
  ·exact rfl
  ·refine' Uc.Rs.holds_c ?ja ?jb ?_
   case ja=>exact rfl
   case jb=>
    rw[List.length_map,h6]
    omega
   rw[Int.toNat_natCast,hni,show((n:Int)).fmod 4=((n%4:Nat):Int) from fmod_nat n 4]
   rfl
  intro v n' hv
  (refine Uc.ex2 hv fun r o=>Uc.an4 fun e1q e2q hr ho=>?_;clear hv;subst e1q;subst e2q)
  have ndr:=Nd.cons (o:=o) hr ndT
  have hll:=StrsAre.len_eq h1
  rw[List.length_map,List.length_range] at hll
  have hlead:lead2 nums i=leadOf2 i n:=by unfold lead2;rw[hn]
  (refine' Uc.J.appK (v:=.str (mkL (lead2 nums i))) 15 (tb0) (ndr) ?apk ?apx ?ape ?apl ?api ?aps ?apm ?apb ?aph;(case apk=>exact rfl);(case apx=>exact rfl);(case ape=>exact rfl);(case api=>exact rfl);(case aps=>exact rfl);(case apm=>exact rfl))
  case apl=>omega
  case apb=>
   rw[show mkL (lead2 nums i)=Txt.join (ofString "") (chrs (lead2 nums i)) from(join_chrs _).symm]
   (refine' Uc.EvTo.join ?jom ?joe ?jow ?joh;(case jom=>exact rfl);(case joe=>exact rfl))
   case jow=>
    have:=chrs_sum (lead2 nums i)
    have:=(lead2_ok nums i).1
    have:(chrs (lead2 nums i)).length=(lead2 nums i).length:=by unfold chrs;rw[List.length_map]
    omega
   case joh=>
    intro Q q
    rcases ho with ⟨h0,rfl⟩|⟨hi0,tr,ur,vr,rfl⟩
    ·(refine' Uc.compL (ax:=r) (its:=[]) (k:=0) (fun _=>PV.none) (fun _=>true) ?zahm ?zahz ?zahit ?zacl ?zacell ?zakind ?zanames ?zax ?zaxd ?zas ?zaturn ?zaq;(case zacl=>exact rfl);(case zacell=>decide);(case zakind=>exact rfl);(case zanames=>decide);(case zax=>exact rfl);(case zaxd=>exact rfl);(case zas=>exact fun _=>rfl))
     case zahm=>exact .head _
     case zahz=>decide
     case zahit=>
      refine EvTo.of tb0 ?_
      walk_at "s"
      exact rfl
     case zaturn=>
      intro j v Cc E' nw' hv
      cases hv
     case zaq=>
      intro D2 vs hvs hD2
      cases hvs
      refine q _ _ ⟨D2,[],0,rfl,.head _,?_,fun _ hq=>.tail _ hq⟩
      rw[hlead,h0]
      exact .nil
    ·(refine' Uc.compR (a:=0) (b:=((1+n%4:Nat):Int)) (1+n%4) (fun j=>.str (chr1 (if n / 4 / 2^j%2=0 then 32 else 9))) (fun _=>true) ?zbhit ?zbsm ?zbrs ?zbhz ?zbcl ?zbcell ?zbkind ?zbnames ?zbx ?zbxd ?zbs ?zbturn ?zbq;(case zbcl=>exact rfl);(case zbcell=>decide);(case zbkind=>exact rfl);(case zbnames=>decide);(case zbx=>exact rfl);(case zbxd=>exact rfl);(case zbs=>exact fun _=>rfl);(case' zbsm=>try decide);(case' zbrs=>try decide);(case' zbhz=>try decide))
     case zbhit=>exact RangeIs.name (.loc rfl rfl rfl) (.head _)
     case zbsm=>exact rsmall (by omega) (by omega) (by omega) (by omega) (by omega) (by omega)
     case zbrs=>exact rsize1 rfl
     case zbhz=>omega
     case zbturn=>
      intro j tj Cc E' nw' hj hs C2 hnm2
      rw[Int.zero_add] at hnm2
      have tb2:=TbOk.addQ (x:=ofString "numbers") (TbOk.addN (x:=ofString "k") (TbOk.addN (tb0 (C:=C2) (m:=_) (nw:=nw')) hnm2) (.cellU (nw:=cls P { V with k:=some (.int (i:Int) t) }++((b,listOf pv.toArray pn)::(a,listOf lv.toArray ln)::ledI)) 3 rfl (fun q hq=>hs _ (.tail _ hq)) rfl rfl rfl rfl)) (.cellU (nw:=cls P { V with k:=some (.int (i:Int) t) }++((b,listOf pv.toArray pn)::(a,listOf lv.toArray ln)::ledI)) 4 hD (fun q hq=>hs _ (.tail _ hq)) rfl rfl rfl rfl) (sv:=.nn (nums.map fun(n:Nat)=>(n:Int))) ⟨dv,dn,hs _ (.tail _ (List.mem_append_right _ (.tail _ (.tail _ (hle _ hdm))))),hdv⟩
      refine⟨rfl,EvTo.of tb2 ?_⟩
      have hj4:j<=4:=by omega
      have hpw:(2:Int)^j=((2^j:Nat):Int):=by push_cast;rfl
      have hpl:2^j<=2^4:=Nat.pow_le_pow_right (by decide) hj4
      have hpp:0<2^j:=Nat.two_pow_pos j
      have hs2:=sign2_is n j
      have hm2:((((n:Int).fdiv 4).fdiv ((2:Int)^j)).fmod 2:Int)=((n / 4 / 2^j%2:Nat):Int):=by
       rw[hpw,show(n:Int).fdiv 4=((n / 4:Nat):Int) from fdiv_nat n 4,show(((n / 4:Nat):Int)).fdiv ((2^j:Nat):Int)=((n / 4 / 2^j:Nat):Int) from fdiv_nat _ _]
       exact fmod_nat _ 2
      refine' Uc.Rs.holds_c ?zc1 ?zc2 ?_
      case zc1=>exact rfl
      case zc2=>
       simp only[Int.toNat_natCast]
       rw[List.length_map,h6,hni,hm2,hpw]
       have:n / 4 / 2^j%2<2:=Nat.mod_lt _ (by decide)
       generalize n / 4 / 2^j%2=z2 at this ⊢
       generalize 2^j=z1 at hpl hpp ⊢
       have hlen:(ofString " \t").length=2:=by decide
       rw[hlen]
       omega
      rw[Int.toNat_natCast i,hni,hs2]
     case zbq=>
      intro D2 vs hvs hD2
      refine q _ _ ⟨D2,vs,_,rfl,.head _,?_,fun _ hq=>.tail _ hq⟩
      have e:((List.range (1+n%4)).filter fun _=>true).map (fun j=>PV.str (chr1 (if n / 4 / 2^j%2=0 then 32 else 9)))=(chrs (lead2 nums i)).map PV.str:=by
       rw[show(List.range (1+n%4)).filter (fun _=>true)=List.range (1+n%4) from List.filter_eq_self.mpr fun _ _=>rfl,hlead]
       unfold leadOf2 chrs
       rw[if_neg (by omega),List.map_map,List.map_map]
       rfl
      rw[e] at hvs
      exact hvs.strs
  case aph=>
   intro t2
   have hni2:=names2_at hi
   have hpg:=page_ok hi
   have nd3:Nd (cls P { V with k:=some (.int (i:Int) t) }++((b,listOf pv.toArray pn)::(a,listOf (lv++[Value.str (mkL (lead2 nums i)) t2]).toArray (ln+1))::ledI)):=ndT
   refine J.sub (nw':=cls P { V with k:=some (.int (i:Int) t) }++((b,listOf pv.toArray pn)::(a,listOf (lv++[Value.str (mkL (lead2 nums i)) t2]).toArray (ln+1))::ledI)) (fun q hq=>.tail _ hq) ?_
   clear ho hr ndr
   have tbN:=TbOk.addQ (x:=ofString "names") (TbOk.addQ (x:=ofString "numbers") (TbOk.addN (x:=ofString "k") (tb0 (C:=C1) (m:=up (fm u [(ofString "leads",.ref a),(ofString "prices",.ref b),(ofString "text",.str (mkL x) tx)]) (ofString "places") (.ref r)) (nw:=cls P { V with k:=some (.int (i:Int) t) }++((b,listOf pv.toArray pn)::(a,listOf (lv++[Value.str (mkL (lead2 nums i)) t2]).toArray (ln+1))::ledI))) (.cellV 3 rfl rfl rfl rfl rfl)) (.cellV 4 hD rfl rfl rfl rfl) (sv:=.nn (nums.map fun(n:Nat)=>(n:Int))) ⟨dv,dn,List.mem_append_right _ (.tail _ (.tail _ (hle _ hdm))),hdv⟩) (.cellV 2 hN rfl rfl rfl rfl) (sv:=.tt names2) ⟨nv,nn,List.mem_append_right _ (.tail _ (.tail _ (hle _ hnm))),hnv⟩
   refine' J.tup ?tu1 ?tu2 ?tu3 ?tu4 (EvR.mono (EvR.call (ad:=221) (R:=fun v n'=>∃a' t1 t2',v=.ref a'/\n'=(a',{ cls:=Value.type "tuple",data:=Data.seq #[Value.str (mkL (typ2 nums i)) t1,Value.int ((pri2 nums i:Nat):Int) t2'] })::(cls P { V with k:=some (.int (i:Int) t) }++((b,listOf pv.toArray pn)::(a,listOf (lv++[Value.str (mkL (lead2 nums i)) t2]).toArray (ln+1))::ledI))) ok1 ?ca1 ?ca2 ?ca3 (fun _=>rfl) ?ca4 ?ca5 ?ca6) ?tu5)
   case tu1=>exact rfl
   case tu2=>exact rfl
   case tu3=>exact rfl
   case tu4=>exact rfl
   case ca1=>exact rfl
   case ca2=>exact rfl
   case ca3=>exact rfl
   case ca4=>exact rfl
   case ca5=>exact rfl
   case ca6=>
    (refine' Uc.SpL.pure ?s1e (tbN) ?s1h;(case s1e=>exact rfl);case' s1h=>(refine' Uc.Rs.holds_c ?s1p ?s1c ?_;(case s1p=>exact rfl)))
    case s1c=>
     rw[show names2.length=6 from rfl]
     omega
    intro t1
    rw[Int.toNat_natCast,hni2]
    (refine' Uc.SpL.pure ?s2e (tbN) ?s2h;(case s2e=>exact rfl);case' s2h=>(refine' Uc.Rs.holds_c ?s2p ?s2c ?_;(case s2p=>exact rfl)))
    case s2c=>
     rw[List.length_map,h6]
     omega
    intro t3
    rw[Int.toNat_natCast,hni,show(n:Int).fdiv 64=((n / 64:Nat):Int) from fdiv_nat n 64]
    refine SpL.nil ⟨12,40,fun _=>True,_,typed_c P.w p loose mean mg mb _ (pageN.getD i []) t1 t3 (n / 64) hpg.1 hpg.2 (by omega),fun _ _=>trivial,by decide,by decide,fun v n' hR=>?_⟩
    rw[hn] at hR
    exact hR
   case tu5=>
    intro v n' hv
    (refine Uc.ex3 hv fun a' t4 t5=>Uc.an2 fun e1q e2q=>?_;clear hv;subst e1q;subst e2q)
    refine⟨a',[Value.str (mkL (typ2 nums i)) t4,Value.int ((pri2 nums i:Nat):Int) t5],0,cls P { V with k:=some (.int (i:Int) t) }++((b,listOf pv.toArray pn)::(a,listOf (lv++[Value.str (mkL (lead2 nums i)) t2]).toArray (ln+1))::ledI),rfl,.head _,rfl,fun q hq=>.tail _ hq,?_⟩
    refine' StsE.loc ?sl1 (StsE.loc ?sl2 ⟨rfl,?_⟩)
    case sl1=>exact rfl
    case sl2=>exact rfl
    have hpl:=intsAre_len h2
    rw[List.length_map,List.length_range] at hpl
    (refine' Uc.J.appK (v:=.int ((pri2 nums i:Nat):Int)) 13 (tb0) (nd3) ?aqk ?aqx ?aqe ?aql ?aqi ?aqs ?aqm ?aqb ?aqh;(case aqk=>exact rfl);(case aqx=>exact rfl);(case aqe=>exact rfl);(case aqi=>exact rfl);(case aqs=>exact rfl);(case aqm=>exact rfl))
    case aql=>omega
    case aqb=>
     refine EvTo.of tb0 ?_
     walk_at "s"
     rfl
    case aqh=>
     intro t6
     have h1':StrsAre (lv++[Value.str (mkL (lead2 nums i)) t2]) ((List.range (i+1)).map fun k=>mkL (lead2 nums k)):=by
      rw[List.range_succ,List.map_append]
      exact StrsAre.append' h1 (.cons _ _ .nil)
     have h2':IntsAre (pv++[Value.int ((pri2 nums i:Nat):Int) t6]) ((List.range (i+1)).map fun k=>((pri2 nums k:Nat):Int)):=by
      rw[List.range_succ,List.map_append]
      exact IntsAre.append h2 (.cons _ _ .nil)
     show J C1 _ (cls P { V with k:=some (.int (i:Int) t) }++((b,listOf (pv++[Value.int ((pri2 nums i:Nat):Int) t6]).toArray (pn+1))::(a,listOf (lv++[Value.str (mkL (lead2 nums i)) t2]).toArray (ln+1))::ledI)) _ _
     refine J.gen [(ofString "typed",.str (mkL (typ2 nums i)) t4),(ofString "leads",.ref a),(ofString "prices",.ref b),(ofString "text",.str (mkL x) tx)] ⟨rfl,rfl,rfl,rfl,trivial⟩ fun u4=>?_
     have tbT:=TbOk.addQ (x:=ofString "leads") (TbOk.addQ (x:=ofString "numbers") (TbOk.addN (x:=ofString "k") (tb0 (C:=C1) (m:=fm u4 [(ofString "typed",.str (mkL (typ2 nums i)) t4),(ofString "leads",.ref a),(ofString "prices",.ref b),(ofString "text",.str (mkL x) tx)]) (nw:=cls P { V with k:=some (.int (i:Int) t) }++((b,listOf (pv++[Value.int ((pri2 nums i:Nat):Int) t6]).toArray (pn+1))::(a,listOf (lv++[Value.str (mkL (lead2 nums i)) t2]).toArray (ln+1))::ledI))) (.cellV 3 rfl rfl rfl rfl rfl)) (.cellV 4 hD rfl rfl rfl rfl) (sv:=.nn (nums.map fun(n:Nat)=>(n:Int))) ⟨dv,dn,List.mem_append_right _ (.tail _ (.tail _ (hle _ hdm))),hdv⟩) (.loc rfl rfl rfl) (sv:=.tt ((List.range (i+1)).map fun k=>mkL (lead2 nums k))) ⟨_,_,List.mem_append_right _ (.tail _ (.head _)),h1'⟩
     have hxl:x.length<=120:=by rw[h3];exact Nat.le_trans (text2_len nums i (by omega)) (by omega)
     have hpt:=part2_len nums hi
     have hlk:=lead2_ok nums i
     have htk:=(typ2_len nums hi).1
     refine' J.asgR ?as1 ?as2 (EvR.to (v:=.str (mkL (text2 nums (i+1)))) ?as3 fun t7=>?as4)
     case as1=>exact rfl
     case as2=>exact rfl
     case as3=>
      rw[text2_succ, <-h3]
      refine EvTo.bin (a:=.str (mkL x)) (b:=.str (mkL (part2 nums i))) (EvTo.of tbT ?_) (EvTo.ofR (EvR.call (ad:=226) ok1 ?cb1 ?cb2 ?cb3 (fun _=>rfl) ?cb4 ?cb5 ?cb6)) ?_
      ·walk_at "s"
       rfl
      ·exact rfl
      ·exact rfl
      ·exact rfl
      ·exact rfl
      ·exact rfl
      ·(refine' Uc.SpL.pure ?s3e (tbT) ?s3h;(case s3e=>exact rfl);case' s3h=>(refine' Uc.Rs.holds_c ?s3p ?s3c ?_;(case s3p=>exact rfl)))
       case s3c=>
        rw[List.length_map,List.length_range]
        omega
       intro t8
       have hlg:((List.range (i+1)).map fun k=>mkL (lead2 nums k)).getD i Str.empty=mkL (lead2 nums i):=by
        rw[List.getD_eq_getElem?_getD,List.getElem?_map,List.getElem?_range (Nat.lt_succ_self i)]
        rfl
       rw[Int.toNat_natCast,hlg]
       (refine' Uc.SpL.pure ?_ (tbT) ?_;exact rfl;walk_at "s")
       intro t9
       (refine' Uc.SpL.pure ?s4e (tbT) ?s4h;(case s4e=>exact rfl);case' s4h=>(refine' Uc.Rs.holds_c ?s4p ?s4c ?_;(case s4p=>exact rfl)))
       case s4c=>
        rw[List.length_map,h6]
        omega
       intro t10
       rw[Int.toNat_natCast,hni,hn]
       refine SpL.nil ⟨12,40,fun _=>True,_,spelled2_c P.w p loose mean mg mb _ (lead2 nums i) (typ2 nums i) t8 t9 t10 (nums.getD i 0) hlk.1 htk (by omega),fun _ _=>trivial,by decide,by decide,fun v n' hR=>hR⟩
      ·refine⟨?_,congrArg PV.str (app2 x (part2 nums i))⟩
       rw[show(mkL x).length=x.length from len_mk x,show(mkL (part2 nums i)).length=(part2 nums i).length from len_mk _]
       omega
     case as4=>
      refine J.tnC ((lv++[Value.str (mkL (lead2 nums i)) t2],ln+1),(pv++[Value.int ((pri2 nums i:Nat):Int) t6],pn+1),(text2 nums (i+1),t7)) (some (.int (i:Int) t)) ⟨rfl,rfl,rfl,trivial⟩ ⟨h1',h2',rfl⟩ (by rw[hledI] at nd3;exact nd3) fun q hq=>?_
      rw[hledI]
      exact hq
end
end Uc
end
section
namespace Uc
open PyProof.Rows.LCg PySem.Calls
section
variable {w:World}{p:Program}{loose:List Str}{mean:ExcName->Option Value}{mg mb:Str->Option Value}{A:Around}{E:Value->Shared->Prop}{s:Shared}{h₀:Heap}{L:Addr}{m:Str->Option Value}
theorem meth_get {q:Lex}{ln:Int}{tl:Tok}{led:Led}{pl:Sem Bool}{Q:Value×List Value->Shared->Prop}(X:(K w.params).In h₀)(T:Top p loose mean mg mb h₀)(F:Fr h₀ L s.heap m)(N:News h₀ L s.heap ((q.X,instObj 125 q.D)::(q.D,lexDq w q ln tl)::led))(hq:Q (.ref 115,[.ref q.X]) s):wpAny (model Pm w) A (getMethod (.ref q.X) (ofString "get_token") pl) Q E s:=by
 revert X
 dsimp only[Pm]
 k_fill
 intro X
 walk_at "X"
 exact hq
theorem meth_push {q:Lex}{ln:Int}{tl:Tok}{led:Led}{pl:Sem Bool}{Q:Value×List Value->Shared->Prop}(X:(K w.params).In h₀)(T:Top p loose mean mg mb h₀)(F:Fr h₀ L s.heap m)(N:News h₀ L s.heap ((q.X,instObj 125 q.D)::(q.D,lexDq w q ln tl)::led))(hq:Q (.ref 122,[.ref q.X]) s):wpAny (model Pm w) A (getMethod (.ref q.X) (ofString "push_token") pl) Q E s:=by
 revert X
 dsimp only[Pm]
 k_fill
 intro X
 walk_at "X"
 exact hq
theorem attr_line {q:Lex}{ln:Int}{tl:Tok}{led:Led}{Q:Value->Shared->Prop}(X:(K w.params).In h₀)(T:Top p loose mean mg mb h₀)(F:Fr h₀ L s.heap m)(N:News h₀ L s.heap ((q.X,instObj 125 q.D)::(q.D,lexDq w q ln tl)::led))(hq:Q (.int ln tl) { s with toks:=s.toks+1 }):wpAny (model Pm w) A (getAttr (.ref q.X) (ofString "lineno") true) Q E s:=by
 revert X
 dsimp only[Pm]
 k_fill
 intro X
 walk_at "X"
 exact hq
theorem meth_less {q:WsA}{x:Str}{led:Led}{pl:Sem Bool}{Q:Value×List Value->Shared->Prop}(X:(K w.params).In h₀)(T:Top p loose mean mg mb h₀)(F:Fr h₀ L s.heap m)(N:News h₀ L s.heap ((q.a,instObj 83 q.d)::(q.d,Uc.wsDq w q x)::(q.P,Uc.wsPq q x)::(q.T,Uc.wsTq q)::led))(hq:Q (.ref 73,[.ref q.a]) s):wpAny (model Pm w) A (getMethod (.ref q.a) (ofString "less") pl) Q E s:=by
 revert X
 dsimp only[Pm]
 k_fill
 intro X
 walk_at "X"
 exact hq
theorem meth_ind {q:WsA}{x:Str}{led:Led}{pl:Sem Bool}{Q:Value×List Value->Shared->Prop}(X:(K w.params).In h₀)(T:Top p loose mean mg mb h₀)(F:Fr h₀ L s.heap m)(N:News h₀ L s.heap ((q.a,instObj 83 q.d)::(q.d,Uc.wsDq w q x)::(q.P,Uc.wsPq q x)::(q.T,Uc.wsTq q)::led))(hq:Q (.ref 52,[.ref q.a]) s):wpAny (model Pm w) A (getMethod (.ref q.a) (ofString "indent_level") pl) Q E s:=by
 revert X
 dsimp only[Pm]
 k_fill
 intro X
 walk_at "X"
 exact hq
theorem attr_n {q:WsA}{x:Str}{led:Led}{Q:Value->Shared->Prop}(X:(K w.params).In h₀)(T:Top p loose mean mg mb h₀)(F:Fr h₀ L s.heap m)(N:News h₀ L s.heap ((q.a,instObj 83 q.d)::(q.d,Uc.wsDq w q x)::(q.P,Uc.wsPq q x)::(q.T,Uc.wsTq q)::led))(hq:Q (.int ((wsOf x).n:Int) q.tn) { s with toks:=s.toks+1 }):wpAny (model Pm w) A (getAttr (.ref q.a) (ofString "n") true) Q E s:=by
 revert X
 dsimp only[Pm]
 k_fill
 intro X
 walk_at "X"
 exact hq
end
end Uc
end
section
namespace Uc
open PyProof.Rows.LCg PySem.Calls
section
variable {C:Cx}{m:Str->Option Value}{nw:Led}{tb:Tb}
theorem BTo.not {t:Expr}{p:Pos}{P:Prop}(h:BTo C m nw t P):BTo C m nw (.UnaryOp .Not t p) (¬ P):=fun K q h0 tk F N=>by
 refine isTrue_not (h _ (fun c hc=>q _ ?_) h0 tk F N)
 cases c with
 |true=>exact⟨fun z=>absurd z (by decide),fun z=>absurd (hc.mp rfl) z⟩
 |false=>exact⟨fun _ z=>Bool.false_ne_true (hc.mpr z),fun _=>rfl⟩
theorem BTo.ev {t:Expr}{b:Bool}(hs:∀env whole,isTrue t env whole=(do let v<-whole;standAt t.pos;holding [v] (truthy v)))(h:EvTo C m nw t (.bool b)):BTo C m nw t (b=true):=fun K q h0 tk F N=>by
 refine isTrue_plain (h _ (fun t1 h1 tk1 F1 N1=>?_) h0 tk F N) (hs _ _)
 exact wpAny_truthy_bool (q b Iff.rfl h1 tk1 F1 N1)
theorem BTo.cmp {l r:Expr}{op:CmpOp}{p:Pos}{a b:PV}{P:Prop}(hm:behindInMarks op r=false)(h1:EvTo C m nw l a)(h2:EvTo C m nw r b)(h:(pCmp op a b).holds fun z=>z↔P):BTo C m nw (.Compare l [op] [r] p) P:=fun K q h0 tk F N=>by
 refine wpAny_isTrue_Compare1 (h1 _ (fun t1 h1 tk1 F1 N1=>?_) h0 tk F N) hm
 refine h2 _ (fun t2 h2 tk2 F2 N2=>?_) h1 tk1 F1 N1
 exact cmp_ok (s:=C.sg h2 tk2) (Bs.mono (fun z e b hb=>wpAny_truthy_bool (q b (hb.trans e) h2 tk2 F2 N2)) h)
theorem EvTo.from {v e:Expr}{p p':Pos}{x y:Str}{i:Int}(hx:EvTo C m nw v (.str x))(he:EvTo C m nw e (.int i))(hz:x.length<=1000000)(hy:Txt.slice x (some i) none=y):EvTo C m nw (.Subscript v (.Slice (some e) none none p') p) (.str y):=fun Q q h0 tk F N=>by
 refine Subscript_ (hx _ (fun t1 h1 tk1 F1 N1=>?_) h0 tk F N)
 refine wpAny_Slice (evalPart_some_step (he _ (fun t2 h2 tk2 F2 N2=>evalPart_none_step (evalPart_none_step ?_)) h1 tk1 F1 N1))
 refine slice_ok (s:=C.sg h2 tk2) (x:=.str x) (t:=t1) (o1:=some i) (o2:=none) F2 N2 ⟨t2,rfl⟩ rfl ⟨Nat.le_trans hz (by decide),fun h3 tk3 t3 F3 N3=>?_⟩
 show Q (Value.str (Txt.slice x (some i) none) t3) _
 rw[hy]
 exact q t3 h3 tk3 F3 N3
theorem EvR.compS {elt iter:Expr}{ifs:List Expr}{x:Str}{px pos:Pos}{scope:Scope}{cl:List (Str×Addr)}{R:Value->Led->Prop}(hclos:closureFor scope C.env=Pure.pure cl)(hcell:∀y∈scope.names,y.2≠.cell)(hkind:scope.kind=.function)(hnames:∀y∈scope.names,y.2=.local->scope.names.lookup y.1=some .local)(hx:scope.names.lookup x=some .local)(hxd:(x==ofString "__debug__")=false)(hs:∀z,foldedSetIterable iter C.env z=Pure.pure z)
  (h:EvR C m nw iter fun v nw1=>∃y t f g,v=.str y t/\y.length<=10000/\(∀i c t Cc E' nw',y.cps[i]? =some c->(∀p∈nw1,p∈nw')->NmIs (C.inn scope cl Cc E' hkind) m nw' x (.str ⟨#[c]⟩ t)->TurnV (C.inn scope cl Cc E' hkind) m nw' elt (g i) (f i) ifs)/\
   ∀D vs,VsDen (((List.range y.length).filter g).map f) vs->(∀p∈nw1,p.1≠D)->R (.ref D) ((D,lst vs)::nw1)):EvR C m nw (.ListComp elt [⟨.Name x px,iter,ifs,0⟩] scope pos) R:=by
 intro Q q h0 tk0 F0 N0
 rw[eval_ListComp]
 refine wpAny_comprehension_free (use:=none) rfl hs hclos hkind hnames (h _ (fun v nw1 hv h1 tk1 F1 N1=>?_) h0 tk0 F0 N0)
 (refine Uc.ex4 hv fun y t f g=>Uc.an4 fun e1q hz turn fin=>?_;clear hv;subst e1q)
 have last:∀D Cc h tk m' vs,VsDen (((List.range y.length).filter g).map f) vs->Fr C.h₀ C.L h m->News C.h₀ C.L h ((D,lst vs)::nw1)->Off1 D nw1->h.Ns Cc m'->C.h₀.get? Cc=none->C.h₀.get? D=none->Cc≠C.L->D≠C.L->Cc≠D->(∀p∈nw1,p.1≠Cc)->compPost C.M C.A C.E none Q (.ref D) Cc (.ok .next) (C.sg h tk):=by
  intro D Cc h tk m' vs hv F' N' o1 hns hC₀ hD₀ hCL hDL hCD offC
  refine⟨m',hns,fun h'' hs''=>q _ _ (fin D vs hv (off1_ne o1)) h'' tk (F'.change hs'' hCL hC₀) (fun p hp=>?_)⟩
  refine⟨hs''.extBut _ _ ?_ (N' p hp).1,(N' p hp).2⟩
  rcases List.mem_cons.mp hp with rfl|hp
  ·exact Ne.symm hCD
  ·exact offC p hp
 cases ha:y.cps.all (· <128)
 ·refine wpAny_pyIter_wide ha ?_
  refine comp_core (h₀':=h1.push _) (tk₀:=tk1) f g (Walks.strWide C.hh h1.objs.size y t) hz (fun i h st=>let ⟨o,h1,_⟩:=st;⟨o,h1⟩) (fun i h h' o st e1 e2 _ _=>by
    obtain⟨o',g1,g2⟩:=st
    rw[e1] at g1;cases g1
    exact⟨o,e2,g2⟩) hcell hkind hx hxd ⟨_,Heap.get?_push_size _ rfl,rfl,rfl⟩ (fun b hb=>by
    rw[List.mem_singleton.mp hb]
    show h1.objs.size<(h1.push _).objs.size
    rw[Heap.size_push];exact Nat.lt_succ_self _) rfl
   (F1.push _) (fun p hp=>⟨Heap.get?_push_of_some _ (N1 p hp).1,(N1 p hp).2⟩) (Nat.ne_of_lt F1.ns.lt) (next_is_new F1) (fun p hp=>Nat.ne_of_lt (Heap.lt_size (N1 p hp).1)) (fun i v Cc E' nw' hi hP hs' hnm=>by obtain⟨c,t,hc,rfl⟩:=hP;exact turn i c t Cc E' nw' hc hs' hnm) last
 ·refine wpAny_pyIter_ascii ha ?_
  refine comp_core (h₀':=h1.push _) (tk₀:=tk1) f g (Walks.strAscii C.hh h1.objs.size y t) hz (fun i h st=>let ⟨o,h1,_⟩:=st;⟨o,h1⟩) (fun i h h' o st e1 e2 _ _=>by
    obtain⟨o',g1,g2⟩:=st
    rw[e1] at g1;cases g1
    exact⟨o,e2,g2⟩) hcell hkind hx hxd ⟨_,Heap.get?_push_size _ rfl,rfl,rfl⟩ (fun b hb=>by
    rw[List.mem_singleton.mp hb]
    show h1.objs.size<(h1.push _).objs.size
    rw[Heap.size_push];exact Nat.lt_succ_self _) rfl
   (F1.push _) (fun p hp=>⟨Heap.get?_push_of_some _ (N1 p hp).1,(N1 p hp).2⟩) (Nat.ne_of_lt F1.ns.lt) (next_is_new F1) (fun p hp=>Nat.ne_of_lt (Heap.lt_size (N1 p hp).1)) (fun i v Cc E' nw' hi hP hs' hnm=>by obtain⟨c,t,hc,rfl⟩:=hP;exact turn i c t Cc E' nw' hc hs' hnm) last
end
end Uc
end
section
namespace Uc
open PyProof.Rows.LCg PySem.Calls
theorem Nd.apart {B r:Led}(nd:Nd (B++r)){b p:Addr×Obj}(hb:b∈B)(hp:p∈r):p.1≠b.1:=by
 unfold Nd at nd
 rw[List.map_append,List.nodup_append] at nd
 exact fun e=>nd.2.2 b.1 (List.mem_map_of_mem hb) p.1 (List.mem_map_of_mem hp) e.symm
theorem LexOk.nd {w:World}{q:Lex}{ln:Int}{tl:Tok}{ps ss:List Value}{pn sn:Nat}{A r n0:Led}(ok:LexOk q n0)(nd:Nd (A++(lexLed w q ln tl ps pn ss sn++r))):LexOk q (A++r):=
 have nd':=nd.front
 { ok with
  n1:=fun p hp=>Nd.apart nd' (b:=(q.D,_)) (.tail _ (.head _)) hp
  n2:=fun p hp=>Nd.apart nd' (b:=(q.PB,_)) (.tail _ (.tail _ (.head _))) hp
  n3:=fun p hp=>Nd.apart nd' (b:=(q.SG,_)) (.tail _ (.tail _ (.tail _ (.tail _ (.tail _ (.tail _ (.tail _ (.tail _ (.head _))))))))) hp }
theorem mem_fwd {A B r:Led}{p:Addr×Obj}(h:p∈A++(B++r)):p∈B++(A++r):=(List.perm_append_comm_assoc A B r).mem_iff.mp h
theorem mem_back {A B r:Led}{p:Addr×Obj}(h:p∈B++(A++r)):p∈A++(B++r):=(List.perm_append_comm_assoc A B r).mem_iff.mpr h
section
variable {C:Cx}{p:Program}{loose:List Str}{mean:ExcName->Option Value}{mg mb:Str->Option Value}{d u:Nat}{m:Str->Option Value}{A r n0:Led}{q:Lex}{tl:Tok}{ps ss:List Value}{pn sn:Nat}{x:Str}{p1 p2 p3:Pos}{pl:Sem Bool}
theorem cx_M {pre:Heap->Prop}(ok:CxOk C p loose mean mg mb pre d u):C.M=model Pm C.w:=by
 (refine Uc.ex6 ok.ex fun dp un gd outer A₀ base=>Uc.an2 fun hp _=>?_)
 unfold Cx.M
 rw[hp]
theorem EvR.getNew {T:Int}{cs:List Nat}(ok:CxOk C p loose mean mg mb (fun h=>CodeHd h 213 209) d u)(hd:20<=d)(hu:80<=u)(lok:LexOk q n0)(nd:Nd (A++(lexLed C.w q (T-cs.count 10) tl [] pn ss sn++r)))(hx:NmIs C m (A++(lexLed C.w q (T-cs.count 10) tl [] pn ss sn++r)) x (.ref q.X))(hss:StrsAre ss (chrs cs))(hlen:cs.length<=10000)(hT:(cs.count 10:Int)<=T/\T<=100000)
  (hm:eval (.Call (.Attribute (.Name x p1) (ofString "get_token") p2) [] [] p3) C.env=(do
   let ov<-eval (.Name x p1) C.env
   standAt p2.atName
   let (f,first)<-holding [ov] (getMethod ov (ofString "get_token") pl)
   callWith p3 f first (backTo p3 (starEach [] C.env)) [])):
  EvR C m (A++(lexLed C.w q (T-cs.count 10) tl [] pn ss sn++r)) (.Call (.Attribute (.Name x p1) (ofString "get_token") p2) [] [] p3) fun v n=>∃tl' pn' ss' sn' t,v=.str ⟨(tokGo cs).1.toArray⟩ t/\n=A++(lexLed C.w q (T-(tokGo cs).2.count 10) tl' [] pn' ss' sn'++r)/\StrsAre ss' (chrs (tokGo cs).2):=fun Q k h0 tk F N=>by
 refine MethodCall_ (hx.ev _ _ (fun h1 tk1 F1 N1=>?_) h0 tk F N) hm
 have N2:News C.h₀ C.L h1 (lexLed C.w q (T-cs.count 10) tl [] pn ss sn++(A++r)):=News.sub N1 fun _ h=>mem_back h
 rw[cx_M ok]
 refine meth_get ok.X ok.T (s:=C.sg h1 tk1) F1 N2 ?_
 rw[<-cx_M ok]
 refine callWith_K0 (ok.X.keeps F1.keep) rfl ?_
 refine ok.go (get_new C.w p loose mean mg mb (A++r) q T tl pn ss sn cs hss hlen hT (lok.nd nd)) F1 N2 (fun v n hR=>?_) (fun _ h=>h) hd hu
 (refine Uc.ex5 hR fun tl' pn' ss' sn' t=>Uc.an3 fun e1q hs' e2q=>?_;clear hR;subst e1q;subst e2q)
 intro h3 tk3 F3 N3
 exact k _ _ ⟨tl',pn',ss',sn',t,rfl,rfl,hs'⟩ h3 tk3 F3 (News.sub N3 fun _ h=>mem_fwd h)
theorem EvR.getOld {ln:Int}{v₀:Value}(ok:CxOk C p loose mean mg mb (fun h=>CodeHd h 213 209) d u)(hd:20<=d)(hu:80<=u)(lok:LexOk q n0)(nd:Nd (A++(lexLed C.w q ln tl (v₀::ps) pn ss sn++r)))(hx:NmIs C m (A++(lexLed C.w q ln tl (v₀::ps) pn ss sn++r)) x (.ref q.X))(hlen:ps.length<=1000)
  (hm:eval (.Call (.Attribute (.Name x p1) (ofString "get_token") p2) [] [] p3) C.env=(do
   let ov<-eval (.Name x p1) C.env
   standAt p2.atName
   let (f,first)<-holding [ov] (getMethod ov (ofString "get_token") pl)
   callWith p3 f first (backTo p3 (starEach [] C.env)) [])):
  EvR C m (A++(lexLed C.w q ln tl (v₀::ps) pn ss sn++r)) (.Call (.Attribute (.Name x p1) (ofString "get_token") p2) [] [] p3) fun v n=>∃pn',v=v₀/\n=A++(lexLed C.w q ln tl ps pn' ss sn++r):=fun Q k h0 tk F N=>by
 refine MethodCall_ (hx.ev _ _ (fun h1 tk1 F1 N1=>?_) h0 tk F N) hm
 have N2:News C.h₀ C.L h1 (lexLed C.w q ln tl (v₀::ps) pn ss sn++(A++r)):=News.sub N1 fun _ h=>mem_back h
 rw[cx_M ok]
 refine meth_get ok.X ok.T (s:=C.sg h1 tk1) F1 N2 ?_
 rw[<-cx_M ok]
 refine callWith_K0 (ok.X.keeps F1.keep) rfl ?_
 refine ok.go (get_pushed C.w p loose mean mg mb (A++r) q ln tl v₀ ps pn ss sn hlen (lok.nd nd)) F1 N2 (fun v n hR=>?_) (fun _ h=>h) (Nat.le_trans (by decide) hd) (Nat.le_trans (by decide) hu)
 obtain⟨pn',rfl,rfl⟩:=hR
 intro h3 tk3 F3 N3
 exact k _ _ ⟨pn',rfl,rfl⟩ h3 tk3 F3 (News.sub N3 fun _ h=>mem_fwd h)
theorem EvR.push {ln:Int}{e:Expr}{v:PV}(ok:CxOk C p loose mean mg mb (fun h=>CodeHd h 213 209) d u)(hd:20<=d)(hu:80<=u)(lok:LexOk q n0)(nd:Nd (A++(lexLed C.w q ln tl ps pn ss sn++r)))(hx:NmIs C m (A++(lexLed C.w q ln tl ps pn ss sn++r)) x (.ref q.X))(hlen:ps.length<=1000)(he:plainArg e=true)(hv:EvTo C m (A++(lexLed C.w q ln tl ps pn ss sn++r)) e v)
  (hm:eval (.Call (.Attribute (.Name x p1) (ofString "push_token") p2) [e] [] p3) C.env=(do
   let ov<-eval (.Name x p1) C.env
   standAt p2.atName
   let (f,first)<-holding [ov] (getMethod ov (ofString "push_token") pl)
   callWith p3 f first (backTo p3 (starEach [e] C.env)) [])):
  EvR C m (A++(lexLed C.w q ln tl ps pn ss sn++r)) (.Call (.Attribute (.Name x p1) (ofString "push_token") p2) [e] [] p3) fun _ n=>∃pn' t,n=A++(lexLed C.w q ln tl (ps++[v.den t]) pn' ss sn++r):=fun Q k h0 tk F N=>by
 refine MethodCall_ (hx.ev _ _ (fun h1 tk1 F1 N1=>?_) h0 tk F N) hm
 have N2:News C.h₀ C.L h1 (lexLed C.w q ln tl ps pn ss sn++(A++r)):=News.sub N1 fun _ h=>mem_back h
 rw[cx_M ok]
 refine meth_push ok.X ok.T (s:=C.sg h1 tk1) F1 N2 ?_
 rw[<-cx_M ok]
 refine callWith_K ok.X rfl (args_cons (hv _ (fun t h2 tk2 F2 N2=>args_nil ⟨ok.X.keeps F2.keep,?_⟩) h1 tk1 F1 N1) (star1 he)) (star1 he)
 have N3:News C.h₀ C.L h2 (lexLed C.w q ln tl ps pn ss sn++(A++r)):=News.sub N2 fun _ h=>mem_back h
 refine ok.go (push_c C.w p loose mean mg mb (A++r) q ln tl ps pn ss sn (v.den t) hlen (lok.nd nd)) F2 N3 (fun v n hR=>?_) (fun _ h=>h) (Nat.le_trans (by decide) hd) (Nat.le_trans (by decide) hu)
 obtain⟨pn',rfl,rfl⟩:=hR
 intro h4 tk4 F4 N4
 exact k _ _ ⟨pn',t,rfl⟩ h4 tk4 F4 (News.sub N4 fun _ h=>mem_fwd h)
end
end Uc
end
section
namespace Uc
open PyProof.Rows.LCg PySem.Calls
theorem lex_nd {w:World}{q:Lex}{ln:Int}{tl:Tok}{ps ss:List Value}{pn sn:Nat}{news n0:Led}(ok:LexOk q n0)(h:∀p∈news,@LT.lt Nat _ p.1 q.CC)(nd:Nd news):Nd (lexLed w q ln tl ps pn ss sn++news):=by
 have o1:@LT.lt Nat _ q.CC q.SG:=ok.o1
 have o2:@LT.lt Nat _ q.SG q.SF:=ok.o2
 have o3:@LT.lt Nat _ q.SF q.RC:=ok.o3
 have o4:@LT.lt Nat _ q.RC q.RF:=ok.o4
 have o5:@LT.lt Nat _ q.RF q.SD:=ok.o5
 have o6:@LT.lt Nat _ q.SD q.D:=ok.o6
 have o7:@LT.lt Nat _ q.D q.X:=ok.o7
 have o8:@LT.lt Nat _ q.X q.PB:=ok.o8
 have far:∀a,@LE.le Nat _ q.CC a->∀p∈news,@Ne Nat p.1 a:=fun a ha p hp=>Nat.ne_of_lt (Nat.lt_of_lt_of_le (h p hp) ha)
 have key:∀(l:List Addr) (a:Addr),(∀b∈l,@Ne Nat b a)->@LE.le Nat _ q.CC a->∀y∈l++news.map (·.1),@Ne Nat y a:=fun l a h1 h2 y hy=>by
  rcases List.mem_append.mp hy with hy|hy
  ·exact h1 y hy
  ·obtain⟨p,hp,rfl⟩:=List.mem_map.mp hy
   exact far a h2 p hp
 have one:∀(l:List Addr) (a:Addr),(∀b∈l,@Ne Nat b a)->@LE.le Nat _ q.CC a->(l++news.map (·.1)).Nodup->(a::(l++news.map (·.1))).Nodup:=fun l a h1 h2 n=>List.nodup_cons.mpr ⟨fun hm=>key l a h1 h2 a hm rfl,n⟩
 show(([q.X,q.D,q.PB,q.SF,q.SD,q.RF,q.RC,q.CC,q.SG]:List Addr)++news.map (·.1)).Nodup
 refine one [q.D,q.PB,q.SF,q.SD,q.RF,q.RC,q.CC,q.SG] q.X ?_ (by omega) (one [q.PB,q.SF,q.SD,q.RF,q.RC,q.CC,q.SG] q.D ?_ (by omega) (one [q.SF,q.SD,q.RF,q.RC,q.CC,q.SG] q.PB ?_ (by omega) (one [q.SD,q.RF,q.RC,q.CC,q.SG] q.SF ?_ (by omega) (one [q.RF,q.RC,q.CC,q.SG] q.SD ?_ (by omega) (one [q.RC,q.CC,q.SG] q.RF ?_ (by omega) (one [q.CC,q.SG] q.RC ?_ (by omega) (one [q.SG] q.CC ?_ (by omega) (one [] q.SG ?_ (by omega) nd))))))))<;>
  (intro b hb;first|exact absurd hb List.not_mem_nil|(simp only[List.mem_cons,List.not_mem_nil,or_false] at hb;first|(rcases hb with rfl|rfl|rfl|rfl|rfl|rfl|rfl|rfl<;>omega)|(rcases hb with rfl|rfl|rfl|rfl|rfl|rfl|rfl<;>omega)|(rcases hb with rfl|rfl|rfl|rfl|rfl|rfl<;>omega)|(rcases hb with rfl|rfl|rfl|rfl|rfl<;>omega)|(rcases hb with rfl|rfl|rfl|rfl<;>omega)|(rcases hb with rfl|rfl|rfl<;>omega)|(rcases hb with rfl|rfl<;>omega)|(subst hb;omega)))
section
variable {P:LP}{V:CV}{led:Led}{m:Str->Option Value}{rest:List Stmt}{ks:List (List Stmt)}{p:Program}{loose:List Str}{mean:ExcName->Option Value}{mg mb:Str->Option Value}
theorem law_s4 {x:List Nat}{t0:Tok}(ok:CxOk P.C p loose mean mg mb (fun h=>CodeHd h 213 209) 30 120)(hm:m (ofString "text")=some (.str (mkL x) t0))(hx:x.length<=500)(nd:Nd (cls P V++((209,tabObj #[])::led)))
  (h:∀q tl pn ss sn tps n0,LexOk q n0->StrsAre ss (chrs (x++[101,110,100]))->Nd (cls P { V with lx:=some (.ref q.X) }++(lexLed P.w q 1 tl [] pn ss sn++((209,tabObj tps)::led)))->J P.C m (cls P { V with lx:=some (.ref q.X) }++(lexLed P.w q 1 tl [] pn ss sn++((209,tabObj tps)::led))) rest ks):
  J P.C m (cls P V++((209,tabObj #[])::led)) (ls4::rest) ks:=by
 unfold ls4
 have nd1:Nd ((209,tabObj #[])::(cls P V++led)):=Nd.mid nd
 refine' J.asgRK ?_ ?_ (EvR.sub (nw':=(209,tabObj #[])::(cls P V++led)) (fun z hz=>?_) (EvR.mono (EvR.call (ad:=214) (R:=fun v n=>∃q tl pn ss sn tps,n=lexLed P.w q 1 tl [] pn ss sn++(209,tabObj tps)::(cls P V++led)/\v=.ref q.X/\StrsAre ss (chrs (x++[101,110,100]))/\LexOk q ((209,tabObj tps)::(cls P V++led))/\AllLt q.CC ((209,tabObj tps)::(cls P V++led))) ok ?c1 ?c2 ?c3 (fun _=>rfl) ?c4 ?c5 ?c6) ?c7))
 ·exact rfl
 ·exact rfl
 ·rcases List.mem_cons.mp hz with rfl|hz
  ·exact List.mem_append_right _ (.head _)
  rcases List.mem_append.mp hz with hz|hz
  ·exact List.mem_append_left _ hz
  ·exact List.mem_append_right _ (.tail _ hz)
 case c1=>exact rfl
 case c2=>exact rfl
 case c3=>exact rfl
 case c4=>exact rfl
 case c5=>exact rfl
 case c6=>
  refine' SpL.cons ?_ (EvR.to (v:=.str (mkL (x++[101,110,100]))) (EvTo.bin (a:=.str (mkL x)) (b:=.str (mkL [101,110,100])) (EvTo.of tb0 ?_) (EvTo.of tb0 ?_) ?_) fun t=>?_)
  ·exact rfl
  ·show Rs.holds _ (rName (m (ofString "text")))
   rw[hm]
   exact rfl
  ·exact rfl
  ·refine⟨?_,congrArg PV.str (app2 x [101,110,100])⟩
   rw[show(mkL x).length=x.length from len_mk x,show(mkL [101,110,100]).length=3 from rfl]
   omega
  ·refine SpL.nil ⟨12,40,_,_,lexer_make P.w p loose mean mg mb (cls P V++led) (mkL (x++[101,110,100])) t (by rw[show(mkL (x++[101,110,100])).length=_ from len_mk _,List.length_append];show _+3<=_;omega) (fun z hz e=>(List.nodup_cons.mp nd1).1 (List.mem_map.mpr ⟨z,hz,e⟩)),fun _ h=>h,by decide,by decide,fun v n hR=>hR⟩
 case c7=>
  intro v n hv
  (refine Uc.ex6 hv fun q tl pn ss sn tps=>Uc.an5 fun e1q e2q hss lok hlt=>?_;clear hv;subst e1q;subst e2q)
  have nd2:Nd (lexLed P.w q 1 tl [] pn ss sn++((209,tabObj tps)::(cls P V++led))):=lex_nd lok (fun z hz=>allLt_all hlt z hz) nd1
  have nd3:Nd (cls P V++((lexLed P.w q 1 tl [] pn ss sn++[(209,tabObj tps)])++led)):=Nd.front (A:=lexLed P.w q 1 tl [] pn ss sn++[(209,tabObj tps)]) (B:=cls P V) nd2
  refine⟨cls P V++(lexLed P.w q 1 tl [] pn ss sn++((209,tabObj tps)::led)),6,P.L+7,P.o 7,V.lx,fun z hz=>mem_fwd (A:=cls P V) (B:=lexLed P.w q 1 tl [] pn ss sn++[(209,tabObj tps)]) hz,rfl,rfl,nd3,h q tl pn ss sn tps _ lok hss nd3⟩
theorem law_s5 (nd:Nd (cls P V++led))
  (h:∀a b c e,Nd (cls P { V with ab:=some (.ref c) }++((e,listOf ([]:List Value).toArray 0)::(c,listOf ([]:List Value).toArray 0)::(b,listOf ([]:List Value).toArray 0)::(a,listOf ([]:List Value).toArray 0)::led))->J P.C (up (up (up m (ofString "rows") (.ref a)) (ofString "weights") (.ref b)) (ofString "pile") (.ref e)) (cls P { V with ab:=some (.ref c) }++((e,listOf ([]:List Value).toArray 0)::(c,listOf ([]:List Value).toArray 0)::(b,listOf ([]:List Value).toArray 0)::(a,listOf ([]:List Value).toArray 0)::led)) rest ks):
  J P.C m (cls P V++led) (ls5::rest) ks:=by
 unfold ls5
 (refine' Uc.J.tupD ?_ ?_ ?_ ?_ ?_ ?_;exact rfl;exact rfl;exact rfl;exact rfl;decide)
 (refine' Uc.SpL.cons ?_ ?_;exact rfl)
 refine EvR.list0 fun a ha=>?_
 (refine' Uc.SpL.cons ?_ ?_;exact rfl)
 refine EvR.list0 fun b hb=>?_
 (refine' Uc.SpL.cons ?_ ?_;exact rfl)
 refine EvR.list0 fun c hc=>?_
 (refine' Uc.SpL.cons ?_ ?_;exact rfl)
 refine EvR.list0 fun e he=>SpL.nil ⟨rfl,?_⟩
 have nd1:Nd ((e,listOf ([]:List Value).toArray 0)::(c,listOf ([]:List Value).toArray 0)::(b,listOf ([]:List Value).toArray 0)::(a,listOf ([]:List Value).toArray 0)::(cls P V++led)):=.cons he (.cons hc (.cons hb (.cons ha nd)))
 refine' StsE.loc ?_ (StsE.loc ?_ (StsE.cel (c:=P.L+8) (o:=P.o 8) (v₀:=V.ab) 11 ?_ ?_ ?_ nd1 (StsE.loc ?_ ⟨rfl,?_⟩)))
 ·exact rfl
 ·exact rfl
 ·exact rfl
 ·exact rfl
 ·exact rfl
 ·exact rfl
 refine J.sub (fun z hz=>mem_fwd (A:=cls P { V with ab:=some (.ref c) }) (B:=[(e,listOf ([]:List Value).toArray 0),(c,listOf ([]:List Value).toArray 0),(b,listOf ([]:List Value).toArray 0),(a,listOf ([]:List Value).toArray 0)]) hz) (h a b c e (Nd.front (B:=cls P V) (A:=[(e,listOf ([]:List Value).toArray 0),(c,listOf ([]:List Value).toArray 0),(b,listOf ([]:List Value).toArray 0),(a,listOf ([]:List Value).toArray 0)]) nd1))
end
end Uc
end
section
namespace Uc
theorem qGo_plain:∀(l acc r:List Nat),(∀c∈l,c≠34/\c≠92)->qGo (l++34::r) acc=(acc++l,r)
 | [],acc,r,_=>by rw[List.nil_append,q_q,List.append_nil]
 |c::l,acc,r,h=>by
  rw[List.cons_append,q_b (h c (.head _)).1 (h c (.head _)).2,qGo_plain l _ r fun d hd=>h d (.tail _ hd),List.append_assoc]
  rfl
theorem bGo_esc {w:Nat}(hw:isWs w=true):∀(l acc r:List Nat),bGo ((l.map fun c=>[92,c]).flatten++w::r) acc=(acc++l,r)
 | [],acc,r=>by
  show bGo (w::r) acc=_
  rw[b_w hw,List.append_nil]
 |c::l,acc,r=>by
  show bGo (92::c::((l.map fun c=>[92,c]).flatten++w::r)) acc=_
  rw[b_e1,bGo_esc hw l,List.append_assoc]
  rfl
theorem tok_lead {r:List Nat}:∀ws:List Nat,(∀c∈ws,isWs c=true)->tokGo (ws++r)=tokGo r
 | [],_=>rfl
 |c::ws,h=>by rw[List.cons_append,tok_ws (h c (.head _)),tok_lead ws fun d hd=>h d (.tail _ hd)]
theorem wsS_ok (n:Nat):isWs (wsS.getD (n / 10%4) 0)=true:=by
 have h:n / 10%4<4:=Nat.mod_lt _ (by decide)
 generalize n / 10%4=z at h
 revert z
 decide
theorem read2 (l y:List Nat)(n:Nat)(hl:∀c∈l,c≠34/\c≠92)(hy:∀c∈y,c≠34/\c≠92)(hs:signOf n≠34/\signOf n≠92)(ws r:List Nat)(hw:∀c∈ws,isWs c=true):
  ∃ws',(∀c∈ws',isWs c=true)/\tokGo (ws++(spelled2 l y n++r))=(raw2 l y n,ws'++r):=by
 rw[tok_lead ws hw]
 have hraw:∀c∈raw2 l y n,c≠34/\c≠92:=fun c hc=>by
  unfold raw2 at hc
  rcases List.mem_append.mp hc with hc|hc
  ·rcases List.mem_append.mp hc with hc|hc
   ·rcases List.mem_append.mp hc with hc|hc
    ·exact hl c (List.mem_of_mem_take hc)
    ·rw[List.mem_singleton.mp hc];exact hs
   ·exact hl c (List.mem_of_mem_drop hc)
  ·exact hy c hc
 have hne:raw2 l y n≠[]:=fun e=>by
  have:=raw2_len l y n
  rw[e] at this
  exact absurd this (by simp)
 obtain⟨c0,rr,he⟩:=List.exists_cons_of_ne_nil hne
 unfold spelled2 quoted2
 rw[List.append_assoc]
 split
 ·refine⟨[wsS.getD (n / 10%4) 0],fun c hc=>by rw[List.mem_singleton.mp hc];exact wsS_ok n,?_⟩
  rw[he]
  show tokGo (34::92::c0::((rr++[34])++([wsS.getD (n / 10%4) 0]++r)))=_
  rw[tok_q,q_e1,List.append_assoc]
  exact qGo_plain rr [c0] _ fun d hd=>hraw d (by rw[he];exact .tail _ hd)
 ·refine⟨[],fun c hc=>absurd hc List.not_mem_nil,?_⟩
  rw[he]
  show tokGo (92::c0::((rr.map fun c=>[92,c]).flatten++(wsS.getD (n / 10%4) 0::r)))=_
  rw[tok_e1,bGo_esc (wsS_ok n)]
  rfl
theorem sgn2 (n:Nat):isB1 (signOf n:Int)=true/\signOf n<1114112/\signOf n≠34/\signOf n≠92:=by
 have e:signOf n=signOf (n%27):=by unfold signOf;rw[Nat.mod_mod]
 rw[e]
 have:=List.all_eq_true.mp signs2_ok (n%27) (List.mem_range.mpr (Nat.mod_lt _ (by decide)))
 simp only[Bool.and_eq_true,decide_eq_true_eq,bne_iff_ne,ne_eq] at this
 exact⟨this.1.1.1.1.1.1.1,this.1.1.1.1.1.1.2,this.1.1.1.1.1.2,this.1.1.1.1.2⟩
noncomputable def nam2 (k:Nat):List Nat:=pageN.getD k []
noncomputable def raw2k (nums:List Nat)(k:Nat):List Nat:=raw2 (lead2 nums k) (typ2 nums k) (nums.getD k 0)
noncomputable def bare2 (nums:List Nat)(k:Nat):List Nat:=lead2 nums k++typ2 nums k
noncomputable def small2 (nums:List Nat)(k:Nat):List Nat:=lead2 nums k++nam2 k
theorem lead_chr {nums:List Nat}{k c:Nat}(h:c∈lead2 nums k):(chars2.lookup c).isSome=true:=by
 rcases(lead2_ok nums k).2 c h with rfl|rfl<;>decide
theorem typ_chr {nums:List Nat}{k:Nat}(hk:k<6):(typ2 nums k).flatMap foldC=nam2 k/\∀c∈typ2 nums k,(chars2.lookup c).isSome=true/\c≠32/\c≠9:=fold_is (page_mem hk) _
theorem bare_is (nums:List Nat){k:Nat}(hk:k<6):(raw2k nums k).filter (fun(c:Nat)=> !isB1 (c:Int))=bare2 nums k:=by
 have hp:∀l:List Nat,(∀c∈l,(chars2.lookup c).isSome=true)->l.filter (fun(c:Nat)=> !isB1 (c:Int))=l:=fun l h=>List.filter_eq_self.mpr fun c hc=>by rw[(char_b3 (h c hc)).1];rfl
 unfold raw2k raw2 bare2
 rw[List.filter_append,List.filter_append,List.filter_append,hp _ fun c hc=>lead_chr (List.mem_of_mem_take hc),hp _ fun c hc=>lead_chr (List.mem_of_mem_drop hc),hp _ fun c hc=>((typ_chr hk).2 c hc).1]
 have e: [signOf (nums.getD k 0)].filter (fun(c:Nat)=> !isB1 (c:Int))=[]:=by
  rw[List.filter_cons,(sgn2 (nums.getD k 0)).1]
  rfl
 rw[e,List.append_nil,List.take_append_drop]
theorem bare_chr (nums:List Nat){k:Nat}(hk:k<6):∀c∈bare2 nums k,(chars2.lookup c).isSome=true:=fun c hc=>by
 rcases List.mem_append.mp hc with hc|hc
 ·exact lead_chr hc
 ·exact((typ_chr hk).2 c hc).1
theorem foldC_lead {c:Nat}(h:c=32∨c=9):foldC c=[c]:=by
 rcases h with rfl|rfl<;>decide
theorem small_is (nums:List Nat){k:Nat}(hk:k<6):(bare2 nums k).flatMap foldC=small2 nums k:=by
 unfold bare2 small2
 rw[List.flatMap_append,(typ_chr hk).1]
 congr 1
 have:∀l:List Nat,(∀d∈l,d=32∨d=9)->l.flatMap foldC=l:=fun l h=>by
  induction l with
  |nil=>rfl
  |cons c l ih=>rw[List.flatMap_cons,foldC_lead (h c (.head _)),ih fun d hd=>h d (.tail _ hd)];rfl
 exact this _ (lead2_ok nums k).2
theorem join_fold (l:List Nat)(h:∀c∈l,(chars2.lookup c).isSome=true):Txt.join (ofString "") (l.map mapB3)=⟨(l.flatMap foldC).toArray⟩:=by
 have e:l.map mapB3=(l.map foldC).map fun x=>(⟨x.toArray⟩:Str):=by
  rw[List.map_map]
  exact List.map_congr_left fun c hc=>(char_b3 (h c hc)).2.1
 rw[e,show Txt.join (ofString "") ((l.map foldC).map fun x=>(⟨x.toArray⟩:Str))=Str.join (ofString "") ((l.map foldC).map fun x=>(⟨x.toArray⟩:Str)) from eq_of_beq (join_plain_closes _ _),List.flatMap_def]
 generalize l.map foldC=ls
 induction ls with
 |nil=>rfl
 |cons c l ih=>
  cases l with
  |nil=>
   show(⟨c.toArray⟩:Str)=⟨(c++[]).toArray⟩
   rw[List.append_nil]
  |cons d l=>
   show(⟨c.toArray⟩:Str)++ofString ""++Str.join (ofString "") ((d::l).map fun l=>(⟨l.toArray⟩:Str))=_
   rw[ih,show ofString ""=(⟨([]:List Nat).toArray⟩:Str) from by rfl]
   rw[app2,app2,List.append_nil, <-List.flatten_cons]
noncomputable def Ahead2 (nums:List Nat)(i:Nat)(cs:List Nat):Prop:=∃ws,(∀c∈ws,isWs c=true)/\cs=ws++(((List.range' i (6-i)).flatMap (part2 nums))++[101,110,100])
theorem ahead2_next {nums:List Nat}{i:Nat}{cs:List Nat}(hi:i<6)(h:Ahead2 nums i cs):∃cs',Ahead2 nums (i+1) cs'/\tokGo cs=(raw2k nums i,cs'):=by
 obtain⟨ws,hw,rfl⟩:=h
 have hl:∀c∈lead2 nums i,c≠34/\c≠92:=fun c hc=>⟨(char_b3 (lead_chr hc)).2.2.2.1,(char_b3 (lead_chr hc)).2.2.2.2.1⟩
 have hy:∀c∈typ2 nums i,c≠34/\c≠92:=fun c hc=>⟨(char_b3 ((typ_chr hi).2 c hc).1).2.2.2.1,(char_b3 ((typ_chr hi).2 c hc).1).2.2.2.2.1⟩
 obtain⟨ws',hw',e⟩:=read2 (lead2 nums i) (typ2 nums i) (nums.getD i 0) hl hy ⟨(sgn2 _).2.2.1,(sgn2 _).2.2.2⟩ ws (((List.range' (i+1) (6-(i+1))).flatMap (part2 nums))++[101,110,100]) hw
 refine⟨ws'++(((List.range' (i+1) (6-(i+1))).flatMap (part2 nums))++[101,110,100]),⟨ws',hw',rfl⟩,?_⟩
 show _=(raw2 (lead2 nums i) (typ2 nums i) (nums.getD i 0),_)
 rw[<-e,show 6-i=(6-(i+1))+1 by omega,List.range'_succ,List.flatMap_cons,List.append_assoc]
 rfl
theorem ahead2_start (nums:List Nat):Ahead2 nums 0 (text2 nums 6++[101,110,100]):=⟨[],fun _ h=>absurd h List.not_mem_nil,by unfold text2;rw[List.nil_append,List.range_eq_range']⟩
theorem raw2k_ok (nums:List Nat){k:Nat}(hk:k<6):(raw2k nums k).length<=8/\∀c∈raw2k nums k,c<1114112:=by
 refine⟨?_,fun c hc=>?_⟩
 ·unfold raw2k
  rw[raw2_len]
  have:=(lead2_ok nums k).1
  have:=(typ2_len nums hk).1
  omega
 ·unfold raw2k raw2 at hc
  rcases List.mem_append.mp hc with hc|hc
  ·rcases List.mem_append.mp hc with hc|hc
   ·rcases List.mem_append.mp hc with hc|hc
    ·exact(char_b3 (lead_chr (List.mem_of_mem_take hc))).2.2.1
    ·rw[List.mem_singleton.mp hc];exact(sgn2 _).2.1
   ·exact(char_b3 (lead_chr (List.mem_of_mem_drop hc))).2.2.1
  ·exact(char_b3 ((typ_chr hk).2 c hc).1).2.2.1
theorem small_ws (nums:List Nat){k:Nat}(hk:k<6):wsOf ⟨(small2 nums k).toArray⟩=wsL (lead2 nums k):=by
 have hp:∀j:Nat,j<6->∃c r,nam2 j=c::r/\c≠32/\c≠9:=by
  intro j hj
  have:j=0∨j=1∨j=2∨j=3∨j=4∨j=5:=by omega
  rcases this with rfl|rfl|rfl|rfl|rfl|rfl<;>exact⟨_,_,rfl,by decide,by decide⟩
 (refine Uc.ex2 (hp k hk) fun c r=>Uc.an3 fun e h1 h2=>?_)
 unfold small2 wsOf wsL
 rw[e]
 show wsGo (lead2 nums k++c::r) _=_
 rw[wsGo_app h1 h2]
theorem wsL_ok (nums:List Nat)(k:Nat):(wsL (lead2 nums k)).n=(lead2 nums k).length/\(wsL (lead2 nums k)).b<=4/\(wsL (lead2 nums k)).cs.length<=5:=by
 have h:=List.all_eq_true.mp wsn_all _ (leads_mem 4 _ (lead2_ok nums k).1 (lead2_ok nums k).2)
 simp only[Bool.and_eq_true,beq_iff_eq,decide_eq_true_eq] at h
 exact⟨h.1.1,h.1.2,h.2⟩
noncomputable def leads2 (nums:List Nat):List (List Nat):=(List.range 6).map (lead2 nums)
theorem leads2_at (nums:List Nat){k:Nat}(hk:k<6):(leads2 nums).getD k []=lead2 nums k:=by
 unfold leads2
 rw[List.getD_eq_getElem?_getD,List.getElem?_map,List.getElem?_range hk]
 rfl
theorem less2 (nums:List Nat){q k:Nat}(hq:q<6)(hk:k<6):lessB (wsOf ⟨(small2 nums q).toArray⟩) (wsOf ⟨(small2 nums k).toArray⟩)=lessAt (leads2 nums) q k:=by
 rw[small_ws nums hq,small_ws nums hk,less_is (lead2_ok nums q).1 (lead2_ok nums k).1 (lead2_ok nums q).2 (lead2_ok nums k).2]
 unfold lessAt
 rw[leads2_at nums hq,leads2_at nums hk]
theorem sl_from (a b:List Nat)(n:Nat)(h:n=a.length):Txt.slice ⟨(a++b).toArray⟩ (some (n:Int)) none=⟨b.toArray⟩:=by
 rw[slice_drop _ n _ rfl,h,List.drop_left]
theorem tok_small:∀(cs:List Nat),(tokGo cs).2.length<=cs.length/\(tokGo cs).2.count 10<=cs.count 10:=by
 have hq:∀(k:Nat) (cs acc:List Nat),cs.length<=k->(qGo cs acc).2.length<=cs.length/\(qGo cs acc).2.count 10<=cs.count 10:=fun k=>by
  induction k with
  |zero=>intro cs acc h;rw[List.length_eq_zero_iff.mp (Nat.le_zero.mp h)];exact⟨Nat.le_refl _,Nat.le_refl _⟩
  |succ k ih=>
   intro cs acc h
   match cs,h with
   | [],_=>exact⟨Nat.le_refl _,Nat.le_refl _⟩
   |c::r,h=>
    have hr:r.length<=k:=by simp only[List.length_cons] at h;(walk_at "O")
    have cc:r.count 10<=(c::r).count 10:=by rw[List.count_cons];(walk_at "O")
    rw[q_eq]
    split
    ·exact⟨by simp,cc⟩
    split
    ·match r,hr,cc with
     | [],_,_=>exact⟨Nat.zero_le _,Nat.zero_le _⟩
     |d::r',hr,cc=>
      have a:=ih r' (acc++[d]) (by simp only[List.length_cons] at hr;(walk_at "O"))
      have cc':r'.count 10<=(d::r').count 10:=by rw[List.count_cons];(walk_at "O")
      simp only[List.length_cons]
      exact⟨by(walk_at "O"),by(walk_at "O")⟩
    ·have a:=ih r (acc++[c]) hr
     simp only[List.length_cons]
     exact⟨by(walk_at "O"),by(walk_at "O")⟩
 have hb:∀(k:Nat) (cs acc:List Nat),cs.length<=k->(bGo cs acc).2.length<=cs.length/\(bGo cs acc).2.count 10<=cs.count 10:=fun k=>by
  induction k with
  |zero=>intro cs acc h;rw[List.length_eq_zero_iff.mp (Nat.le_zero.mp h)];exact⟨Nat.le_refl _,Nat.le_refl _⟩
  |succ k ih=>
   intro cs acc h
   match cs,h with
   | [],_=>exact⟨Nat.le_refl _,Nat.le_refl _⟩
   |c::r,h=>
    have hr:r.length<=k:=by simp only[List.length_cons] at h;(walk_at "O")
    have cc:r.count 10<=(c::r).count 10:=by rw[List.count_cons];(walk_at "O")
    rw[b_eq]
    split
    ·exact⟨by simp,cc⟩
    split
    ·match r,hr,cc with
     | [],_,_=>exact⟨Nat.zero_le _,Nat.zero_le _⟩
     |d::r',hr,cc=>
      have a:=ih r' (acc++[d]) (by simp only[List.length_cons] at hr;(walk_at "O"))
      have cc':r'.count 10<=(d::r').count 10:=by rw[List.count_cons];(walk_at "O")
      simp only[List.length_cons]
      exact⟨by(walk_at "O"),by(walk_at "O")⟩
    ·have a:=ih r (acc++[c]) hr
     simp only[List.length_cons]
     exact⟨by(walk_at "O"),by(walk_at "O")⟩
 intro cs
 induction cs with
 |nil=>exact⟨Nat.le_refl _,Nat.le_refl _⟩
 |cons c r ih=>
  have cc:r.count 10<=(c::r).count 10:=by rw[List.count_cons];(walk_at "O")
  rw[tok_eq]
  split
  ·simp only[List.length_cons];exact⟨by(walk_at "O"),by(walk_at "O")⟩
  split
  ·have a:=hq r.length r [] (Nat.le_refl _)
   simp only[List.length_cons];exact⟨by(walk_at "O"),by(walk_at "O")⟩
  split
  ·match r,cc with
   | [],_=>exact⟨Nat.zero_le _,Nat.zero_le _⟩
   |d::r',cc=>
    have a:=hb r'.length r' [d] (Nat.le_refl _)
    have cc':r'.count 10<=(d::r').count 10:=by rw[List.count_cons];(walk_at "O")
    simp only[List.length_cons]
    exact⟨by(walk_at "O"),by(walk_at "O")⟩
  ·have a:=hb r.length r [c] (Nat.le_refl _)
   simp only[List.length_cons];exact⟨by(walk_at "O"),by(walk_at "O")⟩
theorem flt_list (P:Nat->Bool){α:Type}(F:Nat->α)(l:List Nat):((List.range l.length).filter fun i=>P (l.getD i 0)).map (fun i=>F (l.getD i 0))=(l.filter P).map F:=by
 have e:(List.range l.length).map (fun i=>l.getD i 0)=l:=by
  refine List.ext_getElem (by simp) fun j h1 h2=>?_
  rw[List.getElem_map,List.getElem_range,List.getD_eq_getElem?_getD,List.getElem?_eq_getElem h2]
  rfl
 calc ((List.range l.length).filter fun i=>P (l.getD i 0)).map (fun i=>F (l.getD i 0))
   =(((List.range l.length).filter (P∘fun i=>l.getD i 0)).map (fun i=>l.getD i 0)).map F:=by rw[List.map_map];rfl
  _=(((List.range l.length).map fun i=>l.getD i 0).filter P).map F:=by rw[List.filter_map]
  _=(l.filter P).map F:=by rw[e]
end Uc
end
section
namespace Uc
open PyProof.Rows.LCg PySem.Calls
noncomputable def wsAll (w:World)(sm:Nat->Str):List WsA->Led
 | []=>[]
 |q::r=>wsLed w (sm r.length) q++wsAll w sm r
noncomputable def WsOks (sm:Nat->Str):List WsA->Prop
 | []=>True
 |q::r=>IntsAre q.vs (wsOf (sm r.length)).cs/\WsOks sm r
theorem wsAll_mem {w:World}{sm:Nat->Str}:∀{qs:List WsA} {j:Nat} {q:WsA},qs.reverse[j]? =some q->∀p∈wsLed w (sm j) q,p∈wsAll w sm qs
 | [],_,_,h,_,_=>by cases h
 |a::r,j,q,h,p,hp=>by
  rw[List.reverse_cons] at h
  show p∈wsLed w (sm r.length) a++wsAll w sm r
  rcases Nat.lt_trichotomy j r.length with hj|hj|hj
  ·rw[List.getElem?_append_left (by rw[List.length_reverse];exact hj)] at h
   exact List.mem_append_right _ (wsAll_mem h p hp)
  ·subst hj
   rw[List.getElem?_append_right (by rw[List.length_reverse];exact Nat.le_refl _),List.length_reverse,Nat.sub_self] at h
   cases h
   exact List.mem_append_left _ hp
  ·rw[List.getElem?_eq_none (by rw[List.length_append,List.length_reverse];simp;omega)] at h
   cases h
theorem wsOks_at {sm:Nat->Str}:∀{qs:List WsA} {j:Nat} {q:WsA},WsOks sm qs->qs.reverse[j]? =some q->IntsAre q.vs (wsOf (sm j)).cs
 | [],_,_,_,h=>by cases h
 |a::r,j,q,hw,h=>by
  rw[List.reverse_cons] at h
  rcases Nat.lt_trichotomy j r.length with hj|hj|hj
  ·rw[List.getElem?_append_left (by rw[List.length_reverse];exact hj)] at h
   exact wsOks_at hw.2 h
  ·subst hj
   rw[List.getElem?_append_right (by rw[List.length_reverse];exact Nat.le_refl _),List.length_reverse,Nat.sub_self] at h
   cases h
   exact hw.1
  ·rw[List.getElem?_eq_none (by rw[List.length_append,List.length_reverse];simp;omega)] at h
   cases h
section
variable {C:Cx}{p:Program}{loose:List Str}{mean:ExcName->Option Value}{mg mb:Str->Option Value}{d u:Nat}{m:Str->Option Value}{nw:Led}{pre:Heap->Prop}{p1 p2 p3:Pos}{pl:Sem Bool}
theorem BTo.isB {l:Expr}{k:Nat}{b c:Bool}(h:EvTo C m nw l (.bool b)):BTo C m nw (.Compare l [.Is] [.Constant (.bool c) k p1] p2) (b=c):=fun K q h0 tk F N=>by
 refine wpAny_isTrue_Compare1 (h _ (fun t1 h1 tk1 F1 N1=>wpAny_Constant_bool ?_) h0 tk F N) rfl
 exact is_bool (s:=C.sg h1 tk1) (wpAny_truthy_bool (q _ beq_iff_eq h1 tk1 F1 N1))
theorem BTo.notB {l:Expr}{k:Nat}{b c:Bool}(h:EvTo C m nw l (.bool b)):BTo C m nw (.Compare l [.IsNot] [.Constant (.bool c) k p1] p2) (¬ b=c):=fun K q h0 tk F N=>by
 refine wpAny_isTrue_Compare1 (h _ (fun t1 h1 tk1 F1 N1=>wpAny_Constant_bool ?_) h0 tk F N) rfl
 exact isnot_bool (s:=C.sg h1 tk1) (wpAny_truthy_bool (q _ bne_iff_ne h1 tk1 F1 N1))
theorem attrN {q:WsA}{x:Str}(ok:CxOk C p loose mean mg mb pre d u)(hs:∀z∈wsLed C.w x q,z∈nw):AttrOk C nw q.a (ofString "n") (.int ((wsOf x).n:Int) q.tn):=fun m nw' hs' Q k h tk F N=>by
 rw[cx_M ok]
 refine attr_n (x:=x) (led:=[]) ok.X ok.T (s:=C.sg h tk) F (News.sub N fun z hz=>hs' z (hs z hz)) ?_
 exact k h _ F N
theorem EvTo.less {o e:Expr}{q r:WsA}{x y:Str}(ok:CxOk C p loose mean mg mb pre d u)(hd:16<=d)(hu:60<=u)(ho:EvTo C m nw o (.val (.ref q.a)))(he:plainArg e=true)(hr:EvTo C m nw e (.val (.ref r.a)))(hq1:∀z∈wsLed C.w x q,z∈nw)(hr1:∀z∈wsLed C.w y r,z∈nw)
  (hq:IntsAre q.vs (wsOf x).cs) (hr':IntsAre r.vs (wsOf y).cs) (lq:(wsOf x).cs.length<=100) (lr:(wsOf y).cs.length<=100) (bq:(wsOf x).b<=100) (br:(wsOf y).b<=100) (hx:x.length<=1000) (hy:y.length<=1000)
  (hm:eval (.Call (.Attribute o (ofString "less") p2) [e] [] p3) C.env=(do
   let ov<-eval o C.env
   standAt p2.atName
   let (f,first)<-holding [ov] (getMethod ov (ofString "less") pl)
   callWith p3 f first (backTo p3 (starEach [e] C.env)) [])):EvTo C m nw (.Call (.Attribute o (ofString "less") p2) [e] [] p3) (.bool (lessB (wsOf x) (wsOf y))):=fun Q k h0 tk F N=>by
 refine MethodCall_ (ho _ (fun _ h1 tk1 F1 N1=>?_) h0 tk F N) hm
 rw[cx_M ok]
 refine meth_less (x:=x) (led:=[]) ok.X ok.T (s:=C.sg h1 tk1) F1 (News.sub N1 fun z hz=>hq1 z hz) ?_
 rw[<-cx_M ok]
 refine callWith_K ok.X rfl (args_cons (hr _ (fun _ h2 tk2 F2 N2=>args_nil ⟨ok.X.keeps F2.keep,?_⟩) h1 tk1 F1 N1) (star1 he)) (star1 he)
 refine ok.go (less_c C.w p loose mean mg mb nw x y q r hq hr' (by rw[intsAre_len hq];exact lq) (by rw[intsAre_len hr'];exact lr) bq br hx hy) F2 (News.sub N2 fun z hz=>?_) (fun v n hR=>?_) (fun _ _=>trivial) hd hu
 ·rcases List.mem_append.mp (show z∈wsLed C.w x q++(wsLed C.w y r++nw) from hz) with hz|hz
  ·exact hq1 z hz
  rcases List.mem_append.mp hz with hz|hz
  ·exact hr1 z hz
  ·exact hz
 obtain⟨rfl,rfl⟩:=hR
 intro h4 tk4 F4 N4
 exact k tk4 h4 tk4 F4 (News.sub N4 fun z hz=>show z∈wsLed C.w x q++(wsLed C.w y r++nw) from List.mem_append_right _ (List.mem_append_right _ hz))
theorem EvTo.indent {o e:Expr}{q:WsA}{x:Str}{sz:Nat}(ok:CxOk C p loose mean mg mb pre d u)(hd:8<=d)(hu:30<=u)(ho:EvTo C m nw o (.val (.ref q.a)))(he:plainArg e=true)(hr:EvTo C m nw e (.int (sz:Int)))(hq1:∀z∈wsLed C.w x q,z∈nw)
  (hq:IntsAre q.vs (wsOf x).cs) (lq:(wsOf x).cs.length<=100) (hx:x.length<=1000) (h1:1<=sz) (h2:sz<=1000)
  (hm:eval (.Call (.Attribute o (ofString "indent_level") p2) [e] [] p3) C.env=(do
   let ov<-eval o C.env
   standAt p2.atName
   let (f,first)<-holding [ov] (getMethod ov (ofString "indent_level") pl)
   callWith p3 f first (backTo p3 (starEach [e] C.env)) [])):EvTo C m nw (.Call (.Attribute o (ofString "indent_level") p2) [e] [] p3) (.int (colOf (wsOf x) sz)):=fun Q k h0 tk F N=>by
 refine MethodCall_ (ho _ (fun _ h3 tk3 F3 N3=>?_) h0 tk F N) hm
 rw[cx_M ok]
 refine meth_ind (x:=x) (led:=[]) ok.X ok.T (s:=C.sg h3 tk3) F3 (News.sub N3 fun z hz=>hq1 z hz) ?_
 rw[<-cx_M ok]
 refine callWith_K ok.X rfl (args_cons (hr _ (fun ts h4 tk4 F4 N4=>args_nil ⟨ok.X.keeps F4.keep,?_⟩) h3 tk3 F3 N3) (star1 he)) (star1 he)
 refine ok.go (Uc.indent C.w p loose mean mg mb nw x q.a q.d q.P q.T q.vs q.tx q.tn q.tt q.tb q.k0 q.k1 q.k2 q.k3 q.k4 ts sz hx hq (by rw[intsAre_len hq];exact Nat.le_trans lq (by decide)) h1 h2) F4 (News.sub N4 fun z hz=>?_) (fun v n hR=>?_) (fun _ _=>trivial) hd hu
 ·rcases List.mem_append.mp (show z∈wsLed C.w x q++nw from hz) with hz|hz
  ·exact hq1 z hz
  ·exact hz
 obtain⟨rfl,t,rfl⟩:=hR
 intro h5 tk5 F5 N5
 exact k t h5 tk5 F5 (News.sub N5 fun z hz=>show z∈wsLed C.w x q++nw from List.mem_append_right _ hz)
end
end Uc
end
section
namespace Uc
open PyProof.Rows.LCg PySem.Calls
set_option genInjectivity false in
set_option genSizeOf false in
structure S6 where
 cs:List Nat
 tl:Tok
 pn:Nat
 ss:List Value
 sn:Nat
 qs:List WsA
 rn:Nat
 wv:List Value
 wn:Nat
 av:List Value
 an:Nat
 pv:List Value
 pk:Nat
noncomputable abbrev sm2 (nums:List Nat)(k:Nat):Str:=mkL (small2 nums k)
noncomputable abbrev rowRefs (qs:List WsA):List Value:=(qs.reverse.map (·.a)).map Value.ref
noncomputable abbrev led6 (P:LP)(V:CV)(q:Lex)(T:Int)(nums:List Nat)(a b c e:Addr)(led:Led)(v:Option Value)(z:S6):Led:=
 cls P { V with k:=v }++((e,listOf z.pv.toArray z.pk)::(c,listOf z.av.toArray z.an)::(b,listOf z.wv.toArray z.wn)::(a,listOf (rowRefs z.qs).toArray z.rn)::(lexLed P.w q (T-z.cs.count 10) z.tl [] z.pn z.ss z.sn++(wsAll P.w (sm2 nums) z.qs++led)))
structure R6 (nums:List Nat) (T:Int) (i:Nat) (z:S6):Prop where
 ah:Ahead2 nums i z.cs
 cl:z.cs.length<=200
 ct:(z.cs.count 10:Int)<=T
 ss:StrsAre z.ss (chrs z.cs)
 ql:z.qs.length=i
 qo:WsOks (sm2 nums) z.qs
 wv:IntsAre z.wv ((List.range i).map fun k=>((pri2 nums k:Nat):Int))
 av:IntsAre z.av ((List.range i).map (overZ (lessAt (leads2 nums))))
 pv:IntsAre z.pv (pileZ (pileAt (lessAt (leads2 nums)) i))
noncomputable abbrev nms6 (a b e la pb:Addr)(x:List Nat)(tx:Tok):Nms:=[(ofString "rows",.ref a),(ofString "weights",.ref b),(ofString "pile",.ref e),(ofString "leads",.ref la),(ofString "prices",.ref pb),(ofString "text",.str (mkL x) tx)]
theorem ws_nd {nw:Led}{a d P T:Addr}{o1 o2 o3 o4:Obj}(l1:∀p∈nw,@LT.lt Nat _ p.1 d)(l2:@LT.lt Nat _ d a)(l3:@LT.lt Nat _ a T)(l4:@LT.lt Nat _ T P)(nd:Nd nw):Nd ((a,o1)::(d,o2)::(P,o3)::(T,o4)::nw):=by
 refine .cons (fun q hq=>?_) (.cons (fun q hq=>?_) (.cons (fun q hq=>?_) (.cons (fun q hq=>?_) nd)))
 ·rcases List.mem_cons.mp hq with rfl|hq
  ·show @Ne Nat _ _;omega
  rcases List.mem_cons.mp hq with rfl|hq
  ·show @Ne Nat _ _;omega
  rcases List.mem_cons.mp hq with rfl|hq
  ·show @Ne Nat _ _;omega
  ·have:=l1 q hq;show @Ne Nat _ _;omega
 ·rcases List.mem_cons.mp hq with rfl|hq
  ·show @Ne Nat _ _;omega
  rcases List.mem_cons.mp hq with rfl|hq
  ·show @Ne Nat _ _;omega
  ·have:=l1 q hq;show @Ne Nat _ _;omega
 ·rcases List.mem_cons.mp hq with rfl|hq
  ·show @Ne Nat _ _;omega
  ·have:=l1 q hq;show @Ne Nat _ _;omega
 ·have:=l1 q hq;show @Ne Nat _ _;omega
noncomputable abbrev nmsR (za a b e la pb:Addr)(nums x:List Nat)(i:Nat)(t2 t3 tx:Tok):Nms:=[(ofString "row",.ref za),(ofString "raw",.str (mkL (bare2 nums i)) t2),(ofString "small",.str (mkL (small2 nums i)) t3),(ofString "rows",.ref a),(ofString "weights",.ref b),(ofString "pile",.ref e),(ofString "leads",.ref la),(ofString "prices",.ref pb),(ofString "text",.str (mkL x) tx)]
noncomputable abbrev L6 (P:LP)(V:CV)(i:Nat)(t:Tok)(e c b a:Addr)(pz:List Value)(pj:Nat)(av:List Value)(an:Nat)(wv:List Value)(wn:Nat)(rs:List Value)(rn:Nat)(lx:Led):Led:=cls P { V with k:=some (.int (i:Int) t) }++((e,listOf pz.toArray pj)::(c,listOf av.toArray an)::(b,listOf wv.toArray wn)::(a,listOf rs.toArray rn)::lx)
noncomputable def forBody (s:Stmt):List Stmt:=match s with
 | .For _ _ b _ _=>b
 |_=>[]
noncomputable def lb6:List Stmt:=by
 refine(fun(_:(forBody ls6).drop 2=[?a,?b,?c,?d,?e,?f,?g,?i])=>[?a,?b,?c,?d,?e,?f,?g,?i]) ?h
 case h=>exact rfl
noncomputable def lb6c:List Stmt:=by
 refine(fun(_:(forBody ls6).drop 5=[?a,?b,?c,?d,?e])=>[?a,?b,?c,?d,?e]) ?h
 case h=>exact rfl
section
variable {P:LP}{V:CV}{ledI:Led}{p:Program}{loose:List Str}{mean:ExcName->Option Value}{mg mb:Str->Option Value}
theorem law_s6c {a b c e la pb:Addr}{wv av pz:List Value}{rn wn an pj i:Nat}{tx t t2 t3:Tok}{x nums:List Nat}{u:Str->Option Value}{qs:List WsA}{z:WsA}{lx:Led}(hi:i<6)(ok:CxOk P.C p loose mean mg mb (fun h=>CodeHd h 213 209) 30 120)(hE:PassesOwn P.C.M P.C.A P.C.env P.C.E)(hA:V.ab=some (.ref c))
  (hI:IntsAre z.vs (wsOf (sm2 nums i)).cs) (hql:qs.length=i) (hqo:WsOks (sm2 nums) qs) (hz1:∀y∈wsLed P.w (sm2 nums i) z,y∈lx) (hqs:∀y∈wsAll P.w (sm2 nums) qs,y∈lx) (hav:IntsAre av ((List.range i).map (overZ (lessAt (leads2 nums))))) (hpz:IntsAre pz (pileZ (pileAt (lessAt (leads2 nums)) i)))
  (nd:Nd (L6 P V i t e c b a pz pj av an wv wn (rowRefs qs) rn lx))
  (h:∀u av an rn pz pj,IntsAre av ((List.range (i+1)).map (overZ (lessAt (leads2 nums))))->IntsAre pz (pileZ (pileAt (lessAt (leads2 nums)) (i+1)))->Nd (L6 P V i t e c b a pz pj av an wv wn (rowRefs (z::qs)) rn lx)->J P.C (fm u (nmsR z.a a b e la pb nums x i t2 t3 tx)) (L6 P V i t e c b a pz pj av an wv wn (rowRefs (z::qs)) rn lx) [] []):
  J P.C (fm u (nmsR z.a a b e la pb nums x i t2 t3 tx)) (L6 P V i t e c b a pz pj av an wv wn (rowRefs qs) rn lx) lb6c []:=by
 unfold lb6c
 dsimp -zeta only
 have hwsz:∀j,j<6->(wsOf (sm2 nums j)).cs.length<=100/\(wsOf (sm2 nums j)).b<=100/\(sm2 nums j).length<=1000:=fun j hj=>by
  rw[show wsOf (sm2 nums j)=wsL (lead2 nums j) from small_ws nums hj]
  have:=wsL_ok nums j
  refine⟨by omega,by omega,?_⟩
  rw[show(sm2 nums j).length=(small2 nums j).length from len_mk _]
  unfold small2 nam2
  rw[List.length_append]
  have:=(lead2_ok nums j).1
  have:=(page_ok hj).1
  omega
 have hlt:∀q∈pileAt (lessAt (leads2 nums)) i,q<i:=pile_lt _ i
 have hlen:=pile_len (lessAt (leads2 nums)) i
 refine J.whileX (C:=P.C) (σ:=List Nat×List Value×Nat) (fun y=>L6 P V i t e c b a y.2.1 y.2.2 av an wv wn (rowRefs qs) rn lx) (fun _=>nmsR z.a a b e la pb nums x i t2 t3 tx)
  (fun y=>IntsAre y.2.1 (pileZ y.1)/\popAll (lessAt (leads2 nums)) i y.1=popAll (lessAt (leads2 nums)) i (pileAt (lessAt (leads2 nums)) i)/\(∀q∈y.1,q<i)/\y.1.length<=6) (fun y=>y.1.length) (pileAt (lessAt (leads2 nums)) i,pz,pj) hE ⟨rfl,rfl,rfl,rfl,rfl,rfl,rfl,rfl,rfl,trivial⟩ ⟨hpz,rfl,hlt,by omega⟩ ?wturn fun _ h=>h
 intro y u3 hy
 obtain⟨zs,zv,zn⟩:=y
 obtain⟨hpi,hpop,hzl,hz6⟩:=hy
 dsimp -zeta only at hpi hpop hzl hz6 ⊢
 have ndT:Nd (L6 P V i t e c b a zv zn av an wv wn (rowRefs qs) rn lx):=nd
 have hmx:∀y∈lx,y∈L6 P V i t e c b a zv zn av an wv wn (rowRefs qs) rn lx:=fun y hy=>List.mem_append_right _ (.tail _ (.tail _ (.tail _ (.tail _ hy))))
 have tbP:=TbOk.addQ (x:=ofString "rows") (TbOk.addQ (x:=ofString "pile") (tb0 (C:=P.C) (m:=fm u3 (nmsR z.a a b e la pb nums x i t2 t3 tx)) (nw:=L6 P V i t e c b a zv zn av an wv wn (rowRefs qs) rn lx)) (.loc rfl rfl rfl) (sv:=.nn (pileZ zs)) ⟨zv,zn,List.mem_append_right _ (.head _),hpi⟩) (.loc rfl rfl rfl) (sv:=.rr (qs.reverse.map (·.a))) ⟨rn,List.mem_append_right _ (.tail _ (.tail _ (.tail _ (.head _))))⟩
 have hless:∀q0 zs',zs=q0::zs'->∀(p2 p3 p4 p5 p6 p7 p8 p9 p10:Pos) (k1:Nat) (pl:Sem Bool),(eval (.Call (.Attribute (.Subscript (.Name (ofString "rows") p2) (.Subscript (.Name (ofString "pile") p4) (.UnaryOp .USub (.Constant (.int 1) k1 p5) p6) p7) p8) (ofString "less") p9) [.Name (ofString "row") p10] [] p3) P.C.env=(do
   let ov<-eval (.Subscript (.Name (ofString "rows") p2) (.Subscript (.Name (ofString "pile") p4) (.UnaryOp .USub (.Constant (.int 1) k1 p5) p6) p7) p8) P.C.env
   standAt p9.atName
   let (f,first)<-holding [ov] (getMethod ov (ofString "less") pl)
   callWith p3 f first (backTo p3 (starEach [.Name (ofString "row") p10] P.C.env)) []))->EvTo P.C (fm u3 (nmsR z.a a b e la pb nums x i t2 t3 tx)) (L6 P V i t e c b a zv zn av an wv wn (rowRefs qs) rn lx) (.Call (.Attribute (.Subscript (.Name (ofString "rows") p2) (.Subscript (.Name (ofString "pile") p4) (.UnaryOp .USub (.Constant (.int 1) k1 p5) p6) p7) p8) (ofString "less") p9) [.Name (ofString "row") p10] [] p3) (.bool (lessAt (leads2 nums) q0 i)):=by
  intro q0 zs' hzs p2 p3 p4 p5 p6 p7 p8 p9 p10 k1 pl hm
  have hq0:q0<i:=hzl q0 (by rw[hzs];exact .head _)
  obtain⟨qz,hqz⟩:∃qz,qs.reverse[q0]? =some qz:=⟨_,List.getElem?_eq_getElem (by rw[List.length_reverse];omega)⟩
  rw[<-less2 nums (by omega) hi]
  refine' EvTo.less (q:=qz) (r:=z) (x:=sm2 nums q0) (y:=sm2 nums i) ok (by decide) (by decide) (EvTo.of tbP ?l1) ?l2 (EvTo.of tbP ?l3) (fun y hy=>hmx _ (hqs _ (wsAll_mem hqz y hy))) (fun y hy=>hmx _ (hz1 y hy)) (wsOks_at hqo hqz) hI (hwsz q0 (by omega)).1 (hwsz i hi).1 (hwsz q0 (by omega)).2.1 (hwsz i hi).2.1 (hwsz q0 (by omega)).2.2 (hwsz i hi).2.2 ?l4
  case l1=>
   refine' Uc.Rs.holds_c ?lp ?lc ?_
   case lp=>exact rfl
   case lc=>
    rw[hzs,pileZ_last,pileZ_len,List.length_map,List.length_reverse]
    rw[hzs,List.length_cons] at hz6
    rw[List.length_cons]
    omega
   rw[hzs,pileZ_last,Int.toNat_natCast,List.getD_eq_getElem?_getD,List.getElem?_map,hqz]
   rfl
  case l2=>exact rfl
  case l3=>walk_at "s";exact rfl
  case l4=>exact hm
 refine⟨zs≠[]/\lessAt (leads2 nums) (zs.headD 0) i=false,BTo.and (BTo.of tbP ?b1) (fun hne=>BTo.one ?b2) rfl,?pop,?exit⟩
 case b1=>walk_at "b";exact not_congr pileZ_nil
 case b2=>
  obtain⟨q0,zs',hzs⟩:=List.exists_cons_of_ne_nil hne
  rw[show zs.headD 0=q0 by rw[hzs];rfl]
  exact BTo.isB (hless q0 zs' hzs _ _ _ _ _ _ _ _ _ _ _ rfl)
 case pop=>
  intro hpp C3
  obtain⟨q0,zs',rfl⟩:=List.exists_cons_of_ne_nil hpp.1
  refine J.popK (C:=C3) 13 tb0 ndT rfl rfl (by rw[intsAre_len hpi,pileZ_len];exact Nat.le_trans hz6 (by decide)) (by rw[intsAre_len hpi,pileZ_len];exact Nat.succ_pos _) rfl rfl rfl ?_
  exact J.turn (zs',zv.dropLast,zn+1) ⟨rfl,rfl,rfl,rfl,rfl,rfl,rfl,rfl,rfl,trivial⟩ ⟨by have:=intsAre_dl hpi;rw[pileZ_dl] at this;exact this,(pop_ne _ _ _ _ hpp.2).symm.trans hpop,fun q hq=>hzl q (.tail _ hq),Nat.le_of_succ_le hz6⟩ (Nat.lt_succ_self _) fun _ h=>h
 case exit=>
  intro hnp
  have hz:popAll (lessAt (leads2 nums)) i (pileAt (lessAt (leads2 nums)) i)=zs:=by
   rw[<-hpop]
   refine pop_eq _ _ ?_
   rcases zs with _|⟨q0,zs'⟩
   ·exact .inl rfl
   ·refine .inr ?_
    cases er:lessAt (leads2 nums) ((q0::zs').headD 0) i with
    |true=>rfl
    |false=>exact absurd ⟨List.cons_ne_nil _ _,er⟩ hnp
  refine' J.iteX (p:=zs≠[]/\¬ lessAt (leads2 nums) (zs.headD 0) i=true) (BTo.and (BTo.of tbP ?b3) (fun hne=>BTo.one ?b4) rfl) (fun hF=>absurd ⟨hF.1,Bool.not_eq_true _▸hF.2⟩ hnp) fun _=>J.nil ?b5
  case b3=>walk_at "b";exact not_congr pileZ_nil
  case b4=>
   obtain⟨q0,zs',hzs⟩:=List.exists_cons_of_ne_nil hne
   rw[show zs.headD 0=q0 by rw[hzs];rfl]
   exact BTo.notB (hless q0 zs' hzs _ _ _ _ _ _ _ _ _ _ _ rfl)
  case b5=>
   clear hless
   have hal:=intsAre_len hav
   rw[List.length_map,List.length_range] at hal
   have tbA:=TbOk.addN (x:=ofString "above") tbP (.cellV 7 hA rfl rfl rfl rfl)
   (refine' Uc.J.appK (v:=.int (overZ (lessAt (leads2 nums)) i)) 14 (tbA) (ndT) ?abk ?abx ?abe ?abl ?abi ?abs ?abm ?abb ?abh;(case abk=>exact rfl);(case abx=>exact rfl);(case abe=>exact rfl);(case abi=>exact rfl);(case abs=>exact rfl);(case abm=>exact rfl))
   case abl=>omega
   case abb=>
    refine EvTo.of tbP ?_
    refine' Uc.Rs.holds_c ?ap ?ac ?_
    case ap=>exact rfl
    case ac=>
     intro hne
     rw[pileZ_len]
     refine⟨?_,Nat.le_trans hz6 (by decide)⟩
     rw[<-pileZ_len]
     exact List.length_pos_iff.mpr hne
    exact congrArg PV.int (overZ_is _ _ _ hz _)
   case abh=>
    intro t9
    replace ndT:Nd (L6 P V i t e c b a zv zn (av++[Value.int (overZ (lessAt (leads2 nums)) i) t9]) (an+1) wv wn (rowRefs qs) rn lx):=ndT
    (refine' Uc.J.appK (v:=.val (.ref z.a)) 16 (tb0) (ndT) ?rwk ?rwx ?rwe ?rwl ?rwi ?rws ?rwm ?rwb ?rwh;(case rwk=>exact rfl);(case rwx=>exact rfl);(case rwe=>exact rfl);(case rwi=>exact rfl);(case rws=>exact rfl);(case rwm=>exact rfl))
    case rwl=>
     rw[List.length_map,List.length_map,List.length_reverse]
     omega
    case rwb=>
     refine EvTo.of tb0 ?_
     walk_at "s"
     exact rfl
    case rwh=>
     intro t10
     have er:rowRefs qs++[PV.den t10 (.val (.ref z.a))]=rowRefs (z::qs):=by
      show _=(((z::qs).reverse.map (·.a)).map Value.ref)
      rw[List.reverse_cons,List.map_append,List.map_append]
      rfl
     show J P.C _ (L6 P V i t e c b a zv zn (av++[Value.int (overZ (lessAt (leads2 nums)) i) t9]) (an+1) wv wn (rowRefs qs++[PV.den t10 (.val (.ref z.a))]) (rn+1) lx) _ _
     rw[er]
     replace ndT:Nd (L6 P V i t e c b a zv zn (av++[Value.int (overZ (lessAt (leads2 nums)) i) t9]) (an+1) wv wn (rowRefs (z::qs)) (rn+1) lx):=ndT
     have tbK:=TbOk.addN (x:=ofString "k") (tb0 (C:=P.C) (m:=fm u3 (nmsR z.a a b e la pb nums x i t2 t3 tx)) (nw:=L6 P V i t e c b a zv zn (av++[Value.int (overZ (lessAt (leads2 nums)) i) t9]) (an+1) wv wn (rowRefs (z::qs)) (rn+1) lx)) (.cellV 3 rfl rfl rfl rfl rfl)
     (refine' Uc.J.appK (v:=.int (i:Int)) 13 (tbK) (ndT) ?pik ?pix ?pie ?pil ?pii ?pis ?pim ?pib ?pih;(case pik=>exact rfl);(case pix=>exact rfl);(case pie=>exact rfl);(case pii=>exact rfl);(case pis=>exact rfl);(case pim=>exact rfl))
     case pil=>
      rw[intsAre_len hpi,pileZ_len]
      exact Nat.le_trans hz6 (by decide)
     case pib=>
      refine EvTo.of tbK ?_
      walk_at "s"
      exact rfl
     case pih=>
      intro t11
      refine h u3 (av++[Value.int (overZ (lessAt (leads2 nums)) i) t9]) (an+1) (rn+1) (zv++[Value.int (i:Int) t11]) (zn+1) ?_ ?_ ndT
      ·rw[List.range_succ,List.map_append]
       exact IntsAre.append hav (.cons _ _ .nil)
      ·show IntsAre _ (pileZ (i::popAll (lessAt (leads2 nums)) i (pileAt (lessAt (leads2 nums)) i)))
       rw[hz,pileZ_cons]
       exact IntsAre.append hpi (.cons _ _ .nil)
theorem law_s6b {q:Lex}{N D a b c e la pb:Addr}{nv dv pv ss wv av pz:List Value}{nn dn pn rn wn an pj pk sn i:Nat}{tl tx t t2 t3:Tok}{x nums cs:List Nat}{T:Int}{u:Str->Option Value}{qs:List WsA}(hi:i<6)(ok:CxOk P.C p loose mean mg mb (fun h=>CodeHd h 213 209) 30 120)(hE:PassesOwn P.C.M P.C.A P.C.env P.C.E)(hX:V.lx=some (.ref q.X))(hA:V.ab=some (.ref c))
  (hN:V.na=some (.ref N)) (hnm:(N,listOf nv.toArray nn)∈ledI) (hnv:StrsAre nv names2) (hD:V.nu=some (.ref D)) (hdm:(D,listOf dv.toArray dn)∈ledI) (hdv:IntsAre dv (nums.map fun(n:Nat)=>(n:Int))) (h6:nums.length=6) (hpm:(pb,listOf pv.toArray pn)∈ledI) (hpv:IntsAre pv ((List.range 6).map fun k=>((pri2 nums k:Nat):Int)))
  (hql:qs.length=i) (hqo:WsOks (sm2 nums) qs) (hwv:IntsAre wv ((List.range i).map fun k=>((pri2 nums k:Nat):Int))) (hav:IntsAre av ((List.range i).map (overZ (lessAt (leads2 nums))))) (hpz:IntsAre pz (pileZ (pileAt (lessAt (leads2 nums)) i)))
  (nd:Nd (cls P { V with k:=some (.int (i:Int) t) }++((e,listOf pz.toArray pj)::(c,listOf av.toArray an)::(b,listOf wv.toArray wn)::(a,listOf (rowRefs qs).toArray rn)::(lexLed P.w q (T-cs.count 10) tl [] pk ss sn++(wsAll P.w (sm2 nums) qs++ledI)))))
  (h:∀u z,z.cs=cs->z.ss=ss->z.qs.length=i+1->WsOks (sm2 nums) z.qs->IntsAre z.wv ((List.range (i+1)).map fun k=>((pri2 nums k:Nat):Int))->IntsAre z.av ((List.range (i+1)).map (overZ (lessAt (leads2 nums))))->IntsAre z.pv (pileZ (pileAt (lessAt (leads2 nums)) (i+1)))->
   Nd (led6 P V q T nums a b c e ledI (some (.int (i:Int) t)) z)->J P.C (fm u (nms6 a b e la pb x tx)) (led6 P V q T nums a b c e ledI (some (.int (i:Int) t)) z) [] []):
  J P.C (fm u [(ofString "raw",.str (mkL (bare2 nums i)) t2),(ofString "small",.str (mkL (small2 nums i)) t3),(ofString "rows",.ref a),(ofString "weights",.ref b),(ofString "pile",.ref e),(ofString "leads",.ref la),(ofString "prices",.ref pb),(ofString "text",.str (mkL x) tx)])
   (cls P { V with k:=some (.int (i:Int) t) }++((e,listOf pz.toArray pj)::(c,listOf av.toArray an)::(b,listOf wv.toArray wn)::(a,listOf (rowRefs qs).toArray rn)::(lexLed P.w q (T-cs.count 10) tl [] pk ss sn++(wsAll P.w (sm2 nums) qs++ledI)))) lb6 []:=by
 unfold lb6
 dsimp -zeta only
 have hsl:(small2 nums i).length<=8:=by
  unfold small2 nam2
  rw[List.length_append]
  have:=(lead2_ok nums i).1
  have:=(page_ok hi).1
  omega
 refine' J.asgR ?a1 ?a2 (EvR.mono (EvR.call (ad:=83) (R:=fun v n=>∃z:WsA,v=.ref z.a/\n=wsLed P.w (sm2 nums i) z++(cls P { V with k:=some (.int (i:Int) t) }++((e,listOf pz.toArray pj)::(c,listOf av.toArray an)::(b,listOf wv.toArray wn)::(a,listOf (rowRefs qs).toArray rn)::(lexLed P.w q (T-cs.count 10) tl [] pk ss sn++(wsAll P.w (sm2 nums) qs++ledI))))/\IntsAre z.vs (wsOf (sm2 nums i)).cs/\Nd n) ok ?c1 ?c2 ?c3 (fun _=>rfl) ?c4 ?c5 ?c6) ?c7)
 case a1=>exact rfl
 case a2=>exact rfl
 case c1=>exact rfl
 case c2=>exact rfl
 case c3=>exact rfl
 case c4=>exact rfl
 case c5=>exact rfl
 case c6=>
  (refine' Uc.SpL.pure ?_ (tb0) ?_;exact rfl;walk_at "s")
  intro t1
  refine SpL.nil ⟨8,30,fun _=>True,_,ws_make P.w p loose mean mg mb _ (mkL (small2 nums i)) t1 (by rw[show(mkL (small2 nums i)).length=(small2 nums i).length from len_mk _];omega),fun _ _=>trivial,by decide,by decide,fun v n hR=>?_⟩
  (refine Uc.ex9 hR fun a' d' P' T' vs tn tt tb k0=>Uc.xe4 fun k1 k2 k3 k4=>Uc.an7 fun e1q e2q hI l1 l2 l3 l4=>?_;clear hR;subst e1q;subst e2q)
  exact⟨⟨a',d',P',T',vs,t1,tn,tt,tb,k0,k1,k2,k3,k4⟩,rfl,rfl,hI,ws_nd l1 l2 l3 l4 nd⟩
 case c7=>
  intro v n hv
  (refine Uc.ex1 hv fun z=>Uc.an4 fun e1q e2q hI ndn=>?_;clear hv;subst e1q;subst e2q)
  have nd3:Nd ((cls P { V with k:=some (.int (i:Int) t) }++((e,listOf pz.toArray pj)::(c,listOf av.toArray an)::(b,listOf wv.toArray wn)::(a,listOf (rowRefs qs).toArray rn)::(lexLed P.w q (T-cs.count 10) tl [] pk ss sn)))++(wsLed P.w (sm2 nums i) z++(wsAll P.w (sm2 nums) qs++ledI))):=Nd.front (A:=wsLed P.w (sm2 nums i) z) (B:=cls P { V with k:=some (.int (i:Int) t) }++((e,listOf pz.toArray pj)::(c,listOf av.toArray an)::(b,listOf wv.toArray wn)::(a,listOf (rowRefs qs).toArray rn)::(lexLed P.w q (T-cs.count 10) tl [] pk ss sn))) ndn
  refine J.sub (nw':=cls P { V with k:=some (.int (i:Int) t) }++((e,listOf pz.toArray pj)::(c,listOf av.toArray an)::(b,listOf wv.toArray wn)::(a,listOf (rowRefs qs).toArray rn)::(lexLed P.w q (T-cs.count 10) tl [] pk ss sn++(wsLed P.w (sm2 nums i) z++(wsAll P.w (sm2 nums) qs++ledI))))) (fun y hy=>mem_fwd (A:=cls P { V with k:=some (.int (i:Int) t) }++((e,listOf pz.toArray pj)::(c,listOf av.toArray an)::(b,listOf wv.toArray wn)::(a,listOf (rowRefs qs).toArray rn)::(lexLed P.w q (T-cs.count 10) tl [] pk ss sn))) (B:=wsLed P.w (sm2 nums i) z) hy) ?_
  replace nd3:Nd (cls P { V with k:=some (.int (i:Int) t) }++((e,listOf pz.toArray pj)::(c,listOf av.toArray an)::(b,listOf wv.toArray wn)::(a,listOf (rowRefs qs).toArray rn)::(lexLed P.w q (T-cs.count 10) tl [] pk ss sn++(wsLed P.w (sm2 nums i) z++(wsAll P.w (sm2 nums) qs++ledI))))):=nd3
  clear ndn nd
  obtain⟨r3,hr3⟩:∃l,l=wsLed P.w (sm2 nums i) z++(wsAll P.w (sm2 nums) qs++ledI):=⟨_,rfl⟩
  have hz1:∀y∈wsLed P.w (sm2 nums i) z,y∈r3:=fun y hy=>hr3▸List.mem_append_left _ hy
  have hqs:∀y∈wsAll P.w (sm2 nums) qs,y∈r3:=fun y hy=>hr3▸List.mem_append_right _ (List.mem_append_left _ hy)
  have hle:∀y∈ledI,y∈r3:=fun y hy=>hr3▸List.mem_append_right _ (List.mem_append_right _ hy)
  rw[<-hr3] at nd3 ⊢
  refine J.gen [(ofString "row",.ref z.a),(ofString "raw",.str (mkL (bare2 nums i)) t2),(ofString "small",.str (mkL (small2 nums i)) t3),(ofString "rows",.ref a),(ofString "weights",.ref b),(ofString "pile",.ref e),(ofString "leads",.ref la),(ofString "prices",.ref pb),(ofString "text",.str (mkL x) tx)] ⟨rfl,rfl,rfl,rfl,rfl,rfl,rfl,rfl,rfl,trivial⟩ fun u=>?_
  have hwn:((wsOf (sm2 nums i)).n:Int)=(((lead2 nums i).length:Nat):Int):=by
   rw[show wsOf (sm2 nums i)=wsL (lead2 nums i) from small_ws nums hi,(wsL_ok nums i).1]
  have hr4:∀l:Led,∀y∈r3,y∈cls P { V with k:=some (.int (i:Int) t) }++((e,listOf pz.toArray pj)::(c,listOf av.toArray an)::(b,listOf wv.toArray wn)::(a,listOf (rowRefs qs).toArray rn)::(lexLed P.w q (T-cs.count 10) tl [] pk ss sn++r3)):=fun l y hy=>List.mem_append_right _ (.tail _ (.tail _ (.tail _ (.tail _ (List.mem_append_right _ hy)))))
  have tb3:=TbOk.addA (x:=ofString "row") (TbOk.addQ (x:=ofString "names") (TbOk.addN (x:=ofString "k") (tb0 (C:=P.C) (m:=fm u [(ofString "row",.ref z.a),(ofString "raw",.str (mkL (bare2 nums i)) t2),(ofString "small",.str (mkL (small2 nums i)) t3),(ofString "rows",.ref a),(ofString "weights",.ref b),(ofString "pile",.ref e),(ofString "leads",.ref la),(ofString "prices",.ref pb),(ofString "text",.str (mkL x) tx)]) (nw:=cls P { V with k:=some (.int (i:Int) t) }++((e,listOf pz.toArray pj)::(c,listOf av.toArray an)::(b,listOf wv.toArray wn)::(a,listOf (rowRefs qs).toArray rn)::(lexLed P.w q (T-cs.count 10) tl [] pk ss sn++r3)))) (.cellV 3 rfl rfl rfl rfl rfl)) (.cellV 2 hN rfl rfl rfl rfl) (sv:=.tt names2) ⟨nv,nn,hr4 [] _ (hle _ hnm),hnv⟩) (.loc rfl rfl rfl) (attrN (x:=sm2 nums i) ok fun y hy=>hr4 [] _ (hz1 y hy))
  refine' J.iteX (p:=False) (BTo.cmp (a:=.str (mkL (nam2 i))) (b:=.str (mkL (nam2 i))) ?d1 (EvTo.from (x:=mkL (small2 nums i)) (i:=(((lead2 nums i).length:Nat):Int)) (EvTo.of tb3 ?d2) (EvTo.of tb3 ?d3) ?d4 ?d5) (EvTo.of tb3 ?d6) ?d7) (fun hF=>hF.elim) fun _=>?d8
  case d1=>exact rfl
  case d2=>walk_at "s";exact rfl
  case d3=>
   walk_at "s"
   show PV.int ((wsOf (sm2 nums i)).n:Int)=_
   rw[hwn]
  case d4=>
   rw[show(mkL (small2 nums i)).length=(small2 nums i).length from len_mk _]
   omega
  case d5=>exact sl_from _ _ _ rfl
  case d6=>
   refine' Uc.Rs.holds_c ?dp ?dc ?_
   case dp=>exact rfl
   case dc=>
    rw[show names2.length=6 from rfl]
    omega
   rw[Int.toNat_natCast,names2_at hi]
   rfl
  case d7=>exact⟨fun h=>absurd rfl h,fun h=>h.elim⟩
  case d8=>
   refine J.nil ?_
   have hni:(nums.map fun(n:Nat)=>(n:Int)).getD i 0=((nums.getD i 0:Nat):Int):=by
    rw[List.getD_eq_getElem?_getD,List.getElem?_map,List.getElem?_eq_getElem (by omega),List.getD_eq_getElem?_getD,List.getElem?_eq_getElem (by omega)]
    rfl
   have hpi:((List.range 6).map fun k=>((pri2 nums k:Nat):Int)).getD i 0=((pri2 nums i:Nat):Int):=rng_at _ hi
   have tb4:=TbOk.addQ (x:=ofString "prices") (TbOk.addQ (x:=ofString "numbers") tb3 (.cellV 4 hD rfl rfl rfl rfl) (sv:=.nn (nums.map fun(n:Nat)=>(n:Int))) ⟨dv,dn,hr4 [] _ (hle _ hdm),hdv⟩) (.loc rfl rfl rfl) (sv:=.nn ((List.range 6).map fun k=>((pri2 nums k:Nat):Int))) ⟨pv,pn,hr4 [] _ (hle _ hpm),hpv⟩
   have hwl:=intsAre_len hwv
   rw[List.length_map,List.length_range] at hwl
   have hbl:(bare2 nums i).length<=8:=by
    unfold bare2
    rw[List.length_append]
    have:=(lead2_ok nums i).1
    have:=(typ2_len nums hi).1
    omega
   have htl:=typ2_len nums hi
   have hnl:=(page_ok hi).1
   have hlev:∀z:Int,((pri2 nums i:Nat):Int)-1<=z->levS (mkL (typ2 nums i)) (mkL (nam2 i)) z=((pri2 nums i:Nat):Int):=fun z hz=>price_is (page_mem hi) (nums.getD i 0 / 64) hz
   (refine' Uc.J.appK (v:=.int ((pri2 nums i:Nat):Int)) 15 (tb0) (nd3) ?wk ?wx ?we ?wl ?wi ?ws ?wm ?wb ?wh;(case wk=>exact rfl);(case wx=>exact rfl);(case we=>exact rfl);(case wi=>exact rfl);(case ws=>exact rfl);(case wm=>exact rfl))
   case wl=>omega
   case wb=>
    refine EvTo.ofR (EvR.call (ad:=207) ok ?f1 ?f2 ?f3 (fun _=>rfl) ?f4 ?f5 ?f6)
    case f1=>exact rfl
    case f2=>exact rfl
    case f3=>exact rfl
    case f4=>exact rfl
    case f5=>exact rfl
    case f6=>
     refine' SpL.cons ?h1 (EvR.to (v:=.str (mkL (typ2 nums i))) (EvTo.from (x:=mkL (bare2 nums i)) (i:=(((lead2 nums i).length:Nat):Int)) (EvTo.of tb3 ?h2) (EvTo.of tb3 ?h3) ?h4 ?h5) fun t6=>?h6)
     case h1=>exact rfl
     case h2=>walk_at "s";exact rfl
     case h3=>
      walk_at "s"
      show PV.int ((wsOf (sm2 nums i)).n:Int)=_
      rw[hwn]
     case h4=>
      rw[show(mkL (bare2 nums i)).length=(bare2 nums i).length from len_mk _]
      omega
     case h5=>exact sl_from _ _ _ rfl
     case h6=>
      (refine' Uc.SpL.pure ?s1e (tb3) ?s1h;(case s1e=>exact rfl);case' s1h=>(refine' Uc.Rs.holds_c ?s1p ?s1c ?_;(case s1p=>exact rfl)))
      case s1c=>
       rw[show names2.length=6 from rfl]
       omega
      intro t7
      rw[Int.toNat_natCast,names2_at hi]
      (refine' Uc.SpL.pure ?s2e (tb4) ?s2h;(case s2e=>exact rfl);case' s2h=>(refine' Uc.Rs.holds_c ?s2p ?s2c ?_;(case s2p=>exact rfl)))
      case s2c=>
       rw[List.length_map,List.length_map,List.length_range,h6]
       omega
      intro t8
      rw[Int.toNat_natCast,hni,hpi,show(((nums.getD i 0:Nat):Int)).fmod 3=((nums.getD i 0%3:Nat):Int) from fmod_nat _ 3]
      have hm3:nums.getD i 0%3<3:=Nat.mod_lt _ (by decide)
      refine SpL.nil ⟨8,30,fun _=>True,_,lev P.w p loose mean mg mb _ (mkL (typ2 nums i)) (mkL (nam2 i)) t6 t7 t8 (((pri2 nums i:Nat):Int)+((nums.getD i 0%3:Nat):Int)-1) (by rw[show(mkL (typ2 nums i)).length=(typ2 nums i).length from len_mk _];omega) (by rw[show(mkL (nam2 i)).length=(nam2 i).length from len_mk _];unfold nam2;omega) (by omega) (by omega),fun _ _=>trivial,by decide,by decide,fun v n hR=>?_⟩
      rw[hlev _ (by omega)] at hR
      exact hR
   case wh=>
    intro t5
    refine law_s6c (P:=P) (lx:=lexLed P.w q (T-cs.count 10) tl [] pk ss sn++r3) (wv:=wv++[Value.int ((pri2 nums i:Nat):Int) t5]) (wn:=wn+1) hi ok hE hA hI hql hqo (fun y hy=>List.mem_append_right _ (hz1 y hy)) (fun y hy=>List.mem_append_right _ (hqs y hy)) hav hpz nd3 fun u av an rn pz pj g1 g2 ndz=>?_
    have er:r3=wsAll P.w (sm2 nums) (z::qs)++ledI:=by
     rw[hr3]
     show _=(wsLed P.w (sm2 nums qs.length) z++wsAll P.w (sm2 nums) qs)++ledI
     rw[hql,List.append_assoc]
    rw[er] at ndz ⊢
    refine J.gen (nms6 a b e la pb x tx) ⟨rfl,rfl,rfl,rfl,rfl,rfl,trivial⟩ fun u=>h u ⟨cs,tl,pk,ss,sn,z::qs,rn,wv++[Value.int ((pri2 nums i:Nat):Int) t5],wn+1,av,an,pz,pj⟩ rfl rfl (congrArg (· +1) hql) ⟨by rw[hql];exact hI,hqo⟩ ?_ g1 g2 ndz
    rw[List.range_succ,List.map_append]
    exact IntsAre.append hwv (.cons _ _ .nil)
end
end Uc
end
section
namespace Uc
open PyProof.Rows.LCg PySem.Calls
theorem EvR.join {C:Cx} {m:Str->Option Value} {nw:Led} {e:Expr} {k:Nat} {p1 p2 p3:Pos} {R:Value->Led->Prop} {pl:Sem Bool} (hm:eval (.Call (.Attribute (.Constant (.str (ofString "")) k p1) "join" p2) [e] [] p3) C.env=(do
   let ov<-eval (.Constant (.str (ofString "")) k p1) C.env
   standAt p2.atName
   let (f,first)<-holding [ov] (getMethod ov "join" pl)
   callWith p3 f first (backTo p3 (starEach [e] C.env)) [])) (he:plainArg e=true)
  (h:EvR C m nw e fun v nw'=>∃(D:Addr) (vs:List Value) (n:Nat) (xs:List Str) (nw2:Led),v=.ref D/\(D,listOf vs.toArray n)∈nw'/\StrsAre vs xs/\(xs.map (·.length)).sum+xs.length<=1000000/\(∀p∈nw2,p∈nw')/\∀t,R (.str (Txt.join (ofString "") xs) t) nw2):EvR C m nw (.Call (.Attribute (.Constant (.str (ofString "")) k p1) "join" p2) [e] [] p3) R:=fun Q q h0 tk F N=>by
 refine MethodCall_ (Constant_str (PySem.GM.join ?_)) hm
 refine callWith_method1 (args_cons (h _ (fun v nw' hv h1 tk1 F1 N1=>?_) h0 (tk+1) F N) (star1 he)) (star1 he)
 (refine Uc.ex5 hv fun D vs n xs nw2=>Uc.an6 fun e1q hmm hx hw hs hR=>?_;clear hv;subst e1q)
 refine args_nil (join_listW (News.isList N1 hmm) hx (Nat.zero_le _) (by omega) fun t' k'=>?_)
 exact q _ _ (hR t') h1 k' F1 (News.sub N1 hs)
section
variable {P:LP}{V:CV}{led:Led}{rest:List Stmt}{ks:List (List Stmt)}{p:Program}{loose:List Str}{mean:ExcName->Option Value}{mg mb:Str->Option Value}
theorem law_s6 {q:Lex}{n0:Led}{N D a b c e la pb:Addr}{nv dv pv ss:List Value}{nn dn pn:Nat}{tl tx:Tok}{pk sn:Nat}{x nums:List Nat}{T:Int}{u:Str->Option Value}(ok:CxOk P.C p loose mean mg mb (fun h=>CodeHd h 213 209) 30 120)(hE:PassesOwn P.C.M P.C.A P.C.env P.C.E)(lok:LexOk q n0)(hX:V.lx=some (.ref q.X))(hA:V.ab=some (.ref c))
  (hN:V.na=some (.ref N)) (hnm:(N,listOf nv.toArray nn)∈led) (hnv:StrsAre nv names2) (hD:V.nu=some (.ref D)) (hdm:(D,listOf dv.toArray dn)∈led) (hdv:IntsAre dv (nums.map fun(n:Nat)=>(n:Int))) (h6:nums.length=6) (hpm:(pb,listOf pv.toArray pn)∈led) (hpv:IntsAre pv ((List.range 6).map fun k=>((pri2 nums k:Nat):Int)))
  (hT:T=1+((text2 nums 6++[101,110,100]).count 10:Nat)) (hss:StrsAre ss (chrs (text2 nums 6++[101,110,100])))
  (nd:Nd (cls P V++((e,listOf ([]:List Value).toArray 0)::(c,listOf ([]:List Value).toArray 0)::(b,listOf ([]:List Value).toArray 0)::(a,listOf ([]:List Value).toArray 0)::(lexLed P.w q 1 tl [] pk ss sn++led))))
  (h:∀u v z,R6 nums T 6 z->Nd (led6 P V q T nums a b c e led v z)->J P.C (fm u (nms6 a b e la pb x tx)) (led6 P V q T nums a b c e led v z) rest ks):
  J P.C (fm u (nms6 a b e la pb x tx)) (cls P V++((e,listOf ([]:List Value).toArray 0)::(c,listOf ([]:List Value).toArray 0)::(b,listOf ([]:List Value).toArray 0)::(a,listOf ([]:List Value).toArray 0)::(lexLed P.w q 1 tl [] pk ss sn++led))) (ls6::rest) ks:=by
 have hcl:(text2 nums 6++[101,110,100]).length<=200:=by
  rw[List.length_append]
  have:=text2_len nums 6 (Nat.le_refl _)
  show _+3<=_
  omega
 have h1T:(1:Int)=T-((text2 nums 6++[101,110,100]).count 10:Nat):=by omega
 have hTl:T<=1000:=by
  have:(text2 nums 6++[101,110,100]).count 10<=200:=Nat.le_trans List.count_le_length hcl
  omega
 rw[h1T] at nd ⊢
 unfold ls6
 dsimp -zeta only
 refine' J.forC (σ:=S6) (a:=0) (b:=6) (c:=1) (ck:=P.L+4) (o:=P.o 4) (v₀:=V.k) 6 3 (fun i=>(i:Int)) (fun v z=>led6 P V q T nums a b c e led v z) (fun _=>nms6 a b e la pb x tx) (R6 nums T) ⟨text2 nums 6++[101,110,100],tl,pk,ss,sn,[],0,[],0,[],0,[],0⟩ ?hit (fun i=>by omega) (by decide) (by decide) hE ?hx ?hc (fun _ _=>rfl) (fun _ _ _=>rfl) ?hs ⟨rfl,rfl,rfl,rfl,rfl,rfl,trivial⟩ ⟨ahead2_start nums,hcl,by omega,hss,rfl,trivial,.nil,.nil,.nil⟩ nd ?turn (fun z u v hz ndz=>h u v z hz ndz) fun _ h=>h
 case hit=>
  refine range1 tb0 ?_ ?_ ?_
  ·exact rfl
  ·exact rfl
  walk_at "s"
  exact rfl
 case hx=>exact rfl
 case hc=>exact rfl
 case hs=>exact fun _=>rfl
 case turn=>
  intro i t z u I oI hi hR ndT C1
  have ok1:CxOk C1 p loose mean mg mb (fun h=>CodeHd h 213 209) 30 120:=ok.setQ
  have hE1:PassesOwn C1.M C1.A C1.env C1.E:=hE
  obtain⟨cs,tl,pk,ss,sn,qs,rn,wv,wn,av,an,pz,pj⟩:=z
  obtain⟨hah,hcsl,hcst,hss,hql,hqo,hwv,hav,hpz⟩:=hR
  dsimp -zeta only at hah hcsl hcst hss hql hqo hwv hav hpz ndT ⊢
  obtain⟨cs',hah',etok⟩:=ahead2_next hi hah
  have hsm:=tok_small cs
  rw[etok] at hsm
  obtain⟨ledI,hledI⟩:∃l,l=led++[(I,oI)]:=⟨_,rfl⟩
  have hle:∀z∈led,z∈ledI:=fun z hz=>hledI▸List.mem_append_left _ hz
  have hassoc:∀(l:Led),(l++led)++[(I,oI)]=l++ledI:=fun l=>by rw[hledI,List.append_assoc]
  show J C1 _ (cls P { V with k:=some (.int (i:Int) t) }++((e,listOf pz.toArray pj)::(c,listOf av.toArray an)::(b,listOf wv.toArray wn)::(a,listOf (rowRefs qs).toArray rn)::(lexLed P.w q (T-cs.count 10) tl [] pk ss sn++((wsAll P.w (sm2 nums) qs++led)++[(I,oI)])))) _ _
  replace ndT:Nd (cls P { V with k:=some (.int (i:Int) t) }++((e,listOf pz.toArray pj)::(c,listOf av.toArray an)::(b,listOf wv.toArray wn)::(a,listOf (rowRefs qs).toArray rn)::(lexLed P.w q (T-cs.count 10) tl [] pk ss sn++((wsAll P.w (sm2 nums) qs++led)++[(I,oI)])))):=ndT
  rw[hassoc] at ndT ⊢
  have hraw:=raw2k_ok nums hi
  refine' J.asgR ?a1 ?a2 (EvR.join ?a3 ?a4 (EvR.compS ?k1 ?k2 ?k3 ?k4 ?k5 ?k6 ?k7 (EvR.mono (EvR.getNew (A:=cls P { V with k:=some (.int (i:Int) t) }++[(e,listOf pz.toArray pj),(c,listOf av.toArray an),(b,listOf wv.toArray wn),(a,listOf (rowRefs qs).toArray rn)]) (r:=wsAll P.w (sm2 nums) qs++ledI) (cs:=cs) (T:=T) ok1 (by decide) (by decide) lok ndT ?g1 hss (by omega) ⟨hcst,by omega⟩ ?g2) ?g3)))
  case a1=>exact rfl
  case a2=>exact rfl
  case a3=>exact rfl
  case a4=>exact rfl
  case k1=>exact rfl
  case k2=>decide
  case k3=>exact rfl
  case k4=>decide
  case k5=>exact rfl
  case k6=>exact rfl
  case k7=>exact fun _=>rfl
  case g1=>exact .cellV 6 hX rfl rfl rfl rfl
  case g2=>exact rfl
  case g3=>
   intro v n hv
   (refine Uc.ex5 hv fun tl' pk' ss' sn' ty=>Uc.an3 fun e1q e2q hss'=>?_;clear hv;subst e1q;subst e2q)
   rw[etok] at hss' ⊢
   dsimp -zeta only at hss' hsm ⊢
   refine⟨mkL (raw2k nums i),ty,fun j=>.str (chr1 ((raw2k nums i).getD j 0)),fun j=> !isB1 (((raw2k nums i).getD j 0:Nat):Int),rfl,by rw[show(mkL (raw2k nums i)).length=(raw2k nums i).length from len_mk _];omega,?tr,?fn⟩
   case tr=>
    intro j ch tc Cc E' nw' hj hs hnm
    have hj':(raw2k nums i)[j]? =some ch:=by simpa using hj
    have ej:(raw2k nums i).getD j 0=ch:=by rw[List.getD_eq_getElem?_getD,hj'];rfl
    have hch:=hraw.2 ch (List.mem_of_getElem? hj')
    dsimp -zeta only
    rw[ej]
    have tb2:=TbOk.addN (tb0 (C:=C1.inn _ _ Cc E' rfl) (m:=fm u (nms6 a b e la pb x tx)) (nw:=nw')) hnm
    refine⟨¬ isB1 (ch:Int)=true,BTo.not (BTo.ev (fun _ _=>rfl) (EvTo.ofR (EvR.call (ad:=147) ok1.inn ?x1 ?x2 ?x3 (fun _=>rfl) ?x4 ?x5 ?x6))),by cases isB1 (ch:Int)<;>simp,fun _=>EvTo.of tb2 ?x7⟩
    case x1=>exact rfl
    case x2=>exact rfl
    case x3=>exact rfl
    case x4=>exact rfl
    case x5=>exact rfl
    case x6=>
     (refine' Uc.SpL.pure ?_ (tb2) ?_;exact rfl;walk_at "s")
     intro t1
     exact SpL.nil ⟨4,12,fun _=>True,_,in_b1 P.w p loose mean mg mb _ ch t1 hch,fun _ _=>trivial,by decide,by decide,fun v n hR=>⟨hR.1,0,hR.2⟩⟩
    case x7=>
     walk_at "s"
     exact rfl
   case fn=>
    intro D2 vs hvs hD2
    have ev:((List.range (mkL (raw2k nums i)).length).filter fun j=> !isB1 (((raw2k nums i).getD j 0:Nat):Int)).map (fun j=>PV.str (chr1 ((raw2k nums i).getD j 0)))=(chrs (bare2 nums i)).map PV.str:=by
     rw[show(mkL (raw2k nums i)).length=(raw2k nums i).length from len_mk _,flt_list (fun(c:Nat)=> !isB1 (c:Int)) (fun c=>PV.str (chr1 c)),bare_is nums hi]
     unfold chrs
     rw[List.map_map]
     rfl
    rw[ev] at hvs
    have hbl:(bare2 nums i).length<=8:=by
     rw[<-bare_is nums hi]
     exact Nat.le_trans (List.length_filter_le _ _) hraw.1
    refine⟨D2,vs,_,chrs (bare2 nums i),_,rfl,.head _,hvs.strs,?_,fun z hz=>.tail _ hz,fun t2=>?_⟩
    ·have:=chrs_sum (bare2 nums i)
     have:(chrs (bare2 nums i)).length=(bare2 nums i).length:=by unfold chrs;rw[List.length_map]
     omega
    clear hvs hD2 ev
    rw[join_chrs]
    show J C1 _ (cls P { V with k:=some (.int (i:Int) t) }++((e,listOf pz.toArray pj)::(c,listOf av.toArray an)::(b,listOf wv.toArray wn)::(a,listOf (rowRefs qs).toArray rn)::(lexLed P.w q (T-cs'.count 10) tl' [] pk' ss' sn'++(wsAll P.w (sm2 nums) qs++ledI)))) _ _
    replace ndT:Nd (cls P { V with k:=some (.int (i:Int) t) }++((e,listOf pz.toArray pj)::(c,listOf av.toArray an)::(b,listOf wv.toArray wn)::(a,listOf (rowRefs qs).toArray rn)::(lexLed P.w q (T-cs'.count 10) tl' [] pk' ss' sn'++(wsAll P.w (sm2 nums) qs++ledI)))):=ndT
    have hsl:(small2 nums i).length<=8:=by
     unfold small2 nam2
     rw[List.length_append]
     have:=(lead2_ok nums i).1
     have:=(page_ok hi).1
     omega
    refine' J.asgR ?b1 ?b2 (EvR.to (v:=.str (mkL (small2 nums i))) ?b3 fun t3=>?b4)
    case b1=>exact rfl
    case b2=>exact rfl
    case b3=>
     have hbc:=bare_chr nums hi
     rw[show mkL (small2 nums i)=Txt.join (ofString "") ((bare2 nums i).map mapB3) by rw[join_fold _ hbc,small_is nums hi]]
     (refine' Uc.EvTo.join ?jbm ?jbe ?jbw ?jbh;(case jbm=>exact rfl);(case jbe=>exact rfl))
     case jbw=>
      have e1:((bare2 nums i).map mapB3).map (·.length)=(bare2 nums i).map fun c=>(foldC c).length:=by
       rw[List.map_map]
       exact List.map_congr_left fun c hc=>by show(mapB3 c).length=_;rw[(char_b3 (hbc c hc)).2.1];exact len_mk _
      have e2:((bare2 nums i).map fun c=>(foldC c).length).sum=(small2 nums i).length:=by
       rw[<-small_is nums hi,List.length_flatMap]
      rw[e1,e2,List.length_map]
      omega
     case jbh=>
      refine' EvR.compS ?l1 ?l2 ?l3 ?l4 ?l5 ?l6 ?l7 (EvR.to (v:=.str (mkL (bare2 nums i))) (EvTo.of tb0 ?l8) fun t4=>?l9)
      case l1=>exact rfl
      case l2=>decide
      case l3=>exact rfl
      case l4=>decide
      case l5=>exact rfl
      case l6=>exact rfl
      case l7=>exact fun _=>rfl
      case l8=>
       walk_at "s"
       exact rfl
      case l9=>
       refine⟨mkL (bare2 nums i),t4,fun j=>.str (mapB3 ((bare2 nums i).getD j 0)),fun _=>true,rfl,by rw[show(mkL (bare2 nums i)).length=(bare2 nums i).length from len_mk _];omega,?tr,?fn⟩
       case tr=>
        intro j ch tc Cc E' nw' hj hs hnm
        have hj':(bare2 nums i)[j]? =some ch:=by simpa using hj
        have ej:(bare2 nums i).getD j 0=ch:=by rw[List.getD_eq_getElem?_getD,hj'];rfl
        have hch:=(char_b3 (hbc ch (List.mem_of_getElem? hj'))).2.2.1
        dsimp -zeta only
        rw[ej]
        have tb2:=TbOk.addN (tb0 (C:=C1.inn _ _ Cc E' rfl) (m:=up (fm u (nms6 a b e la pb x tx)) (ofString "raw") (.str (mkL (bare2 nums i)) t2)) (nw:=nw')) hnm
        refine⟨rfl,EvTo.ofR (EvR.call (ad:=193) ok1.inn ?y1 ?y2 ?y3 (fun _=>rfl) ?y4 ?y5 ?y6)⟩
        case y1=>exact rfl
        case y2=>exact rfl
        case y3=>exact rfl
        case y4=>exact rfl
        case y5=>exact rfl
        case y6=>
         (refine' Uc.SpL.pure ?_ (tb2) ?_;exact rfl;walk_at "s")
         intro t1
         exact SpL.nil ⟨4,12,fun _=>True,_,map_b3 P.w p loose mean mg mb _ ch t1 hch,fun _ _=>trivial,by decide,by decide,fun v n hR=>hR⟩
       case fn=>
        intro D2 vs hvs hD2
        have ev:((List.range (mkL (bare2 nums i)).length).filter fun _=>true).map (fun j=>PV.str (mapB3 ((bare2 nums i).getD j 0)))=((bare2 nums i).map mapB3).map PV.str:=by
         rw[show(mkL (bare2 nums i)).length=(bare2 nums i).length from len_mk _,flt_list (fun _=>true) (fun c=>PV.str (mapB3 c)),List.filter_eq_self.mpr fun _ _=>rfl,List.map_map]
         rfl
        rw[ev] at hvs
        exact⟨D2,vs,_,rfl,.head _,hvs.strs,fun z hz=>.tail _ hz⟩
    case b4=>
     refine J.gen [(ofString "raw",.str (mkL (bare2 nums i)) t2),(ofString "small",.str (mkL (small2 nums i)) t3),(ofString "rows",.ref a),(ofString "weights",.ref b),(ofString "pile",.ref e),(ofString "leads",.ref la),(ofString "prices",.ref pb),(ofString "text",.str (mkL x) tx)] ⟨rfl,rfl,rfl,rfl,rfl,rfl,rfl,rfl,trivial⟩ fun u9=>?_
     refine law_s6b (P:={ P with Q:=turnC P.C (fun v z=>led6 P V q T nums a b c e led v z) (fun _=>nms6 a b e la pb x tx) (R6 nums T (i+1)) I oI (P.C.post (rest::ks)) }) hi ok1 hE1 hX hA hN (hle _ hnm) hnv hD (hle _ hdm) hdv h6 (hle _ hpm) hpv hql hqo hwv hav hpz ndT fun u z9 h1 h2 h3 h4 h5 h6' h7 ndz=>?_
     refine J.tnC (C:=P.C) z9 (some (.int (i:Int) t)) ⟨rfl,rfl,rfl,rfl,rfl,rfl,trivial⟩ ⟨by rw[h1];exact hah',by rw[h1];exact Nat.le_trans hsm.1 hcsl,by rw[h1];have:=hsm.2;omega,by rw[h1,h2];exact hss',h3,h4,h5,h6',h7⟩ ?_ fun z hz=>?_
     ·rw[hledI] at ndz
      replace ndz:Nd (cls P { V with k:=some (.int (i:Int) t) }++((e,listOf z9.pv.toArray z9.pk)::(c,listOf z9.av.toArray z9.an)::(b,listOf z9.wv.toArray z9.wn)::(a,listOf (rowRefs z9.qs).toArray z9.rn)::(lexLed P.w q (T-z9.cs.count 10) z9.tl [] z9.pn z9.ss z9.sn++(wsAll P.w (sm2 nums) z9.qs++(led++[(I,oI)]))))):=ndz
      rw[show(wsAll P.w (sm2 nums) z9.qs++(led++[(I,oI)]))=(wsAll P.w (sm2 nums) z9.qs++led)++[(I,oI)] from(List.append_assoc _ _ _).symm] at ndz
      exact ndz
     ·have hz':z∈cls P { V with k:=some (.int (i:Int) t) }++((e,listOf z9.pv.toArray z9.pk)::(c,listOf z9.av.toArray z9.an)::(b,listOf z9.wv.toArray z9.wn)::(a,listOf (rowRefs z9.qs).toArray z9.rn)::(lexLed P.w q (T-z9.cs.count 10) z9.tl [] z9.pn z9.ss z9.sn++((wsAll P.w (sm2 nums) z9.qs++led)++[(I,oI)]))):=hz
      rw[List.append_assoc, <-hledI] at hz'
      exact hz'
end
end Uc
end
section
namespace Uc
open PyProof.Rows.LCg PySem.Calls
noncomputable def st2 (nums:List Nat):Nat:=nums.sum%6
theorem sum_nat (l:List Nat):(l.map fun(n:Nat)=>(n:Int)).sum=((l.sum:Nat):Int):=by
 induction l with
 |nil=>rfl
 |cons a l ih=>rw[List.map_cons,List.sum_cons,List.sum_cons,ih];push_cast;rfl
theorem start_is (nums:List Nat)(i:Nat):((nums.map fun(n:Nat)=>(n:Int)).sum+(i:Int)).fmod 6=(((st2 nums+i)%6:Nat):Int):=by
 rw[sum_nat,show((nums.sum:Nat):Int)+(i:Int)=((nums.sum+i:Nat):Int) by push_cast;rfl,show(((nums.sum+i:Nat):Int)).fmod 6=(((nums.sum+i)%6:Nat):Int) from fmod_nat _ 6]
 unfold st2
 congr 1
 exact(Nat.mod_add_mod _ _ _).symm
noncomputable def namV (k:Nat):Str:=mkL (nam2 k)
section
variable {C:Cx}{m:Str->Option Value}{nw:Led}
theorem EvR.compG {elt iter:Expr}{x:Str}{px pos:Pos}{scope:Scope}{cl:List (Str×Addr)}{ax:Addr}{its:List Value}{k:Nat}(Rw:Nat->List Value->Led->Prop)(hm:(ax,listOf its.toArray k)∈nw)(hz:its.length<=10000)(hit:EvTo C m nw iter (.val (.ref ax)))
  (hclos:closureFor scope C.env=Pure.pure cl) (hcell:∀y∈scope.names,y.2≠.cell) (hkind:scope.kind=.function) (hnames:∀y∈scope.names,y.2=.local->scope.names.lookup y.1=some .local) (hx:scope.names.lookup x=some .local) (hxd:(x==ofString "__debug__")=false) (hs:∀x,foldedSetIterable iter C.env x=Pure.pure x) (h0:Rw 0 [] nw)
  (turn:∀i v ys nw' A Cc E',its[i]? =some v->Rw i ys nw'->(ax,listOf its.toArray k)∈nw'->(∀p∈A,∀q∈nw',q.1≠p.1)->NmIs (C.inn scope cl Cc E' hkind) m (A++nw') x v->
   EvR (C.inn scope cl Cc E' hkind) m (A++nw') elt fun y nwT'=>∃nw2,(∀p∈A++nw2,p∈nwT')/\(∀p∈A,∀q∈nw2,q.1≠p.1)/\(ax,listOf its.toArray k)∈nw2/\Rw (i+1) (ys++[y]) nw2):
  EvR C m nw (.ListComp elt [⟨.Name x px,iter,[],0⟩] scope pos) fun v n=>∃D ys nw',v=.ref D/\Rw its.length ys nw'/\n=(D,lst ys)::nw'/\∀p∈nw',p.1≠D:=fun Q q h1 tk1 F1 N1=>by
 refine comp_list hclos hcell hkind hnames hx (hit _ (fun t h2 tk2 F2 N2=>?_) h1 tk1 F1 N1) hs
 refine⟨C.h₀,C.L,m,ax,its,k,nw,Rw,rfl,C.hh,F2,N2,hm,hz,h0,fun g i v ys news I oI Cc oC D m₂ h tk E' hi hv hRw hS hoC hm2 F N off hne=>?_,fun D h tk ys news' r F N o1=>q _ _ ⟨D,ys,news',rfl,r,rfl,off1_ne o1⟩ h tk F N⟩
 refine wpAny_tests_nil ?_
 rw[if_pos rfl]
 have hmem:=off.mem
 have hap:∀p∈[(I,oI),(Cc,oC),(D,lst ys)],∀q∈news,q.1≠p.1:=fun p hp q hq=>by
  rcases List.mem_cons.mp hp with rfl|hp
  ·exact(hmem q hq).1
  rcases List.mem_cons.mp hp with rfl|hp
  ·exact(hmem q hq).2.1
  ·rw[List.mem_singleton.mp hp];exact(hmem q hq).2.2
 have hnm:NmIs (C.inn scope cl Cc E' hkind) m ([(I,oI),(Cc,oC),(D,lst ys)]++news) x v:=⟨hxd,.inr (.inr ⟨lookup_relabel_local hx,oC,m₂,.tail _ (.head _),hoC,hm2⟩)⟩
 refine wpAny_mono (turn i v ys news [(I,oI),(Cc,oC),(D,lst ys)] Cc E' hv hRw hS hap hnm (fun y s₄=>TurnC C.h₀ C.L m (C.sg h tk) I oI Cc oC D (lst ys) (fun nw₂=>(ax,listOf its.toArray k)∈nw₂/\Rw (i+1) (ys++[y]) nw₂) s₄) (fun y nwT' r h4 tk4 F4 N4=>?_) h tk F N) (fun _ _ r=>r) fun _ _ e=>e
 obtain⟨nw2,hsub,hap2,hS2,r⟩:=r
 exact⟨h4,tk4,nw2,rfl,F4,News.sub N4 hsub,Off3.of fun p hp=>⟨hap2 _ (.head _) p hp,hap2 _ (.tail _ (.head _)) p hp,hap2 _ (.tail _ (.tail _ (.head _))) p hp⟩,hS2,r⟩
end
section
variable {P:LP}{V:CV}{r:Led}{rest:List Stmt}{ks:List (List Stmt)}{p:Program}{loose:List Str}{mean:ExcName->Option Value}{mg mb:Str->Option Value}{NM:Nms}
theorem law_s7 {q:Lex}{n0:Led}{N D:Addr}{nv dv ss:List Value}{nn dn pn sn:Nat}{tl:Tok}{ln:Int}{nums:List Nat}{u:Str->Option Value}(ok:CxOk P.C p loose mean mg mb (fun h=>CodeHd h 213 209) 30 120)(hE:PassesOwn P.C.M P.C.A P.C.env P.C.E)(lok:LexOk q n0)(hX:V.lx=some (.ref q.X))
  (hN:V.na=some (.ref N)) (hnm:(N,listOf nv.toArray nn)∈r) (hnv:StrsAre nv names2) (hD:V.nu=some (.ref D)) (hdm:(D,listOf dv.toArray dn)∈r) (hdv:IntsAre dv (nums.map fun(n:Nat)=>(n:Int)))
  (hNM:∀u,Has (fm u NM) NM) (nd:Nd (cls P V++(lexLed P.w q ln tl [] pn ss sn++r)))
  (h:∀u v ps pn,StrsAre ps ((List.range 6).map fun j=>namV ((st2 nums+j)%6))->Nd (cls P { V with k:=v }++(lexLed P.w q ln tl ps pn ss sn++r))->J P.C (fm u NM) (cls P { V with k:=v }++(lexLed P.w q ln tl ps pn ss sn++r)) rest ks):
  J P.C (fm u NM) (cls P V++(lexLed P.w q ln tl [] pn ss sn++r)) (ls7::rest) ks:=by
 unfold ls7
 dsimp -zeta only
 refine' J.forC (σ:=List Value×Nat) (a:=0) (b:=6) (c:=1) (ck:=P.L+4) (o:=P.o 4) (v₀:=V.k) 6 3 (fun i=>(i:Int)) (fun v z=>cls P { V with k:=v }++(lexLed P.w q ln tl z.1 z.2 ss sn++r)) (fun _=>NM) (fun i z=>StrsAre z.1 ((List.range i).map fun j=>namV ((st2 nums+j)%6))) ([],pn) ?hit (fun i=>by omega) (by decide) (by decide) hE ?hx ?hc (fun _ _=>rfl) (fun _ _ _=>rfl) ?hs (hNM u) .nil nd ?turn (fun z u v hz ndz=>h u v z.1 z.2 hz ndz) fun _ h=>h
 case hit=>
  refine range1 tb0 ?_ ?_ ?_
  ·exact rfl
  ·exact rfl
  walk_at "s"
  exact rfl
 case hx=>exact rfl
 case hc=>exact rfl
 case hs=>exact fun _=>rfl
 case turn=>
  intro i t z u I oI hi hz ndT C1
  obtain⟨ps,pn⟩:=z
  dsimp -zeta only at hz ndT ⊢
  have ok1:CxOk C1 p loose mean mg mb (fun h=>CodeHd h 213 209) 30 120:=ok.setQ
  have hassoc:∀l:Led,(l++r)++[(I,oI)]=l++(r++[(I,oI)]):=fun l=>List.append_assoc _ _ _
  show J C1 _ (cls P { V with k:=some (.int (i:Int) t) }++(lexLed P.w q ln tl ps pn ss sn++(r++[(I,oI)]))) _ _
  replace ndT:Nd (cls P { V with k:=some (.int (i:Int) t) }++(lexLed P.w q ln tl ps pn ss sn++(r++[(I,oI)]))):=ndT
  have hr:∀y∈r,y∈cls P { V with k:=some (.int (i:Int) t) }++(lexLed P.w q ln tl ps pn ss sn++(r++[(I,oI)])):=fun y hy=>List.mem_append_right _ (List.mem_append_right _ (List.mem_append_left _ hy))
  have tbK:=TbOk.addQ (x:=ofString "numbers") (TbOk.addQ (x:=ofString "names") (TbOk.addN (x:=ofString "k") (tb0 (C:=C1) (m:=fm u NM) (nw:=cls P { V with k:=some (.int (i:Int) t) }++(lexLed P.w q ln tl ps pn ss sn++(r++[(I,oI)])))) (.cellV 3 rfl rfl rfl rfl rfl)) (.cellV 2 hN rfl rfl rfl rfl) (sv:=.tt names2) ⟨nv,nn,hr _ hnm,hnv⟩) (.cellV 4 hD rfl rfl rfl rfl) (sv:=.nn (nums.map fun(n:Nat)=>(n:Int))) ⟨dv,dn,hr _ hdm,hdv⟩
  have hps:=StrsAre.len_eq hz
  rw[List.length_map,List.length_range] at hps
  refine' J.exprR ?e1 ?e2 (EvR.mono (EvR.push (v:=.str (namV ((st2 nums+i)%6))) ok1 (by decide) (by decide) lok ndT ?e3 (by omega) ?e4 (EvTo.of tbK ?e5) ?e6) ?e7)
  case e1=>exact rfl
  case e2=>exact rfl
  case e3=>exact .cellV 6 hX rfl rfl rfl rfl
  case e4=>exact rfl
  case e5=>
   have h6:(st2 nums+i)%6<6:=Nat.mod_lt _ (by decide)
   refine' Uc.Rs.holds_c ?lp ?lc ?_
   case lp=>exact rfl
   case lc=>
    rw[start_is,show names2.length=6 from rfl]
    omega
   rw[start_is,Int.toNat_natCast,names2_at h6]
   rfl
  case e6=>exact rfl
  case e7=>
   intro v n hv
   obtain⟨pn',t2,rfl⟩:=hv
   refine J.tnC (ps++[Value.str (namV ((st2 nums+i)%6)) t2],pn') (some (.int (i:Int) t)) (hNM u) ?_ ndT fun _ h=>h
   show StrsAre _ _
   rw[List.range_succ,List.map_append]
   exact StrsAre.append' hz (.cons _ _ .nil)
end
end Uc
end
section
namespace Uc
open PyProof.Rows.LCg PySem.Calls
theorem Nd.perm {nw nw':Led}(h:nw.Perm nw')(nd:Nd nw):Nd nw':=(h.map _).nodup_iff.mp nd
noncomputable abbrev gLed (G:List (Addr×List Value×Nat)):Led:=G.map fun z=>(z.1,listOf z.2.1.toArray z.2.2)
noncomputable abbrev gRef (G:List (Addr×List Value×Nat)):List Value:=G.map fun z=>Value.ref z.1
noncomputable def GOk:List (Addr×List Value×Nat)->List (List Int)->Prop
 | [],gs=>gs=[]
 |z::G,gs=>∃g gs',gs=g::gs'/\IntsAre z.2.1 g/\GOk G gs'
theorem GOk.len:∀{G:List (Addr×List Value×Nat)} {gs:List (List Int)},GOk G gs->G.length=gs.length
 | [],gs,h=>by cases h;rfl
 |z::G,gs,h=>by
  (refine Uc.ex2 h fun g gs'=>Uc.an3 fun e1q _ h'=>?_;clear h;subst e1q)
  exact congrArg (· +1) (GOk.len h')
theorem GOk.rows {nw:Led}:∀{G:List (Addr×List Value×Nat)} {gs:List (List Int)},GOk G gs->(∀p∈gLed G,p∈nw)->RowsAre nw (gRef G) gs
 | [],gs,h,_=>by cases h;exact .nil
 |z::G,gs,h,hs=>by
  (refine Uc.ex2 h fun g gs'=>Uc.an3 fun e1q hI h'=>?_;clear h;subst e1q)
  exact .cons (hs _ (.head _)) hI (GOk.rows h' fun p hp=>hs p (.tail _ hp))
theorem GOk.snoc:∀{G:List (Addr×List Value×Nat)} {gs:List (List Int)} {z:Addr×List Value×Nat} {g:List Int},GOk G gs->IntsAre z.2.1 g->GOk (G++[z]) (gs++[g])
 | [],gs,z,g,h,hI=>by cases h;exact⟨g,[],rfl,hI,rfl⟩
 |y::G,gs,z,g,h,hI=>by
  (refine Uc.ex2 h fun g' gs'=>Uc.an3 fun e1q hI' h'=>?_;clear h;subst e1q)
  exact⟨g',gs'++[g],rfl,hI',GOk.snoc h' hI⟩
theorem GOk.at:∀{G:List (Addr×List Value×Nat)} {gs:List (List Int)} {k:Nat} {z:Addr×List Value×Nat},GOk G gs->G[k]? =some z->IntsAre z.2.1 (gs.getD k [])
 | [],gs,k,z,h,hk=>by cases hk
 |y::G,gs,0,z,h,hk=>by
  (refine Uc.ex2 h fun g' gs'=>Uc.an3 fun e1q hI' h'=>?_;clear h;subst e1q)
  cases hk
  exact hI'
 |y::G,gs,k+1,z,h,hk=>by
  (refine Uc.ex2 h fun g' gs'=>Uc.an3 fun e1q hI' h'=>?_;clear h;subst e1q)
  show IntsAre z.2.1 (gs'.getD k [])
  exact GOk.at (G:=G) h' hk
theorem GOk.set:∀{G:List (Addr×List Value×Nat)} {gs:List (List Int)} {k:Nat} {z:Addr×List Value×Nat} {g:List Int},GOk G gs->IntsAre z.2.1 g->GOk (G.set k z) (gs.set k g)
 | [],gs,k,z,g,h,hI=>by cases h;exact rfl
 |y::G,gs,0,z,g,h,hI=>by
  (refine Uc.ex2 h fun g' gs'=>Uc.an3 fun e1q hI' h'=>?_;clear h;subst e1q)
  exact⟨g,gs',rfl,hI,h'⟩
 |y::G,gs,k+1,z,g,h,hI=>by
  (refine Uc.ex2 h fun g' gs'=>Uc.an3 fun e1q hI' h'=>?_;clear h;subst e1q)
  exact⟨g',gs'.set k g,rfl,hI',GOk.set h' hI⟩
theorem J.tupE {C:Cx}{m:Str->Option Value}{nw:Led}{rest:List Stmt}{ks:List (List Stmt)}{pos:Pos}{elts es:List Expr}{k k2:Nat}{tpos tp2:Pos}(hs:swapsWithSole [.Tuple elts k tpos] (.Tuple es k2 tp2) pos.line C.env=Pure.pure false)(hw:swappedStores [.Tuple elts k tpos] (.Tuple es k2 tp2) C.env=Pure.pure none)(hn:(assignEach elts C.env).length=elts.length)(hstar:(assignEach elts C.env).findIdx? (·.1)=none)(hz:elts.length<=10000)
  (h:SpL C m nw es fun vs nw'=>vs.length=elts.length/\∃nw2,(∀p∈nw2,p∈nw')/\StsE C (fun m' nw3=>J C m' nw3 rest ks) elts vs m nw2):J C m nw (.Assign [.Tuple elts k tpos] (.Tuple es k2 tp2) pos::rest) ks:=by
 refine J.tup hs hw hn hstar (.tup fun p h0 tk F N=>wpAny_mono (h p h0 tk F N) (fun vs s' r=>?_) fun _ _ e=>e)
 obtain⟨nw',h1,tk1,rfl,F1,N1,hl,nw2,hsub,r⟩:=r
 exact⟨nw',h1,tk1,rfl,F1,N1,by rw[hl];exact hz,fun D hD=>⟨D,vs,0,nw2,rfl,.head _,hl,fun _ hp=>.tail _ (hsub _ hp),r⟩⟩
section
variable {P:LP}{V:CV}{r:Led}{m:Str->Option Value}{rest:List Stmt}{ks:List (List Stmt)}
theorem law_s8 {W:Addr}{wv:List Value}{wn:Nat}{ws:List Int}(nd:Nd (cls P V++r))(hm:m (ofString "weights")=some (.ref W))(hW:(W,listOf wv.toArray wn)∈r)(hwv:IntsAre wv ws)(hl:wv.length<=100)
  (h:∀Gt O G gn tt,GOk G (ws.map fun w=>[w])->Nd (cls P { V with off:=some (.ref O),to:=some (.int (-1) tt) }++((O,listOf ([]:List Value).toArray 0)::(Gt,listOf (gRef G).toArray gn)::(gLed G++r)))->J P.C (up m (ofString "gathered") (.ref Gt)) (cls P { V with off:=some (.ref O),to:=some (.int (-1) tt) }++((O,listOf ([]:List Value).toArray 0)::(Gt,listOf (gRef G).toArray gn)::(gLed G++r))) rest ks):
  J P.C m (cls P V++r) (ls8::rest) ks:=by
 unfold ls8
 dsimp -zeta only
 have hwl:=intsAre_len hwv
 (refine' Uc.J.tupE ?_ ?_ ?_ ?_ ?_ ?_;exact rfl;exact rfl;exact rfl;exact rfl;decide)
 (refine' Uc.SpL.cons ?_ ?_;exact rfl)
 refine' EvR.mono (EvR.compG (ax:=W) (its:=wv) (k:=wn) (fun i ys nw'=>∃G,nw'=(gLed G).reverse++(cls P V++r)/\Nd nw'/\ys=gRef G/\GOk G ((ws.take i).map fun w=>[w])) (List.mem_append_right _ hW) (by omega) (EvTo.of tb0 ?hit) ?cl ?cell ?kind ?names ?x ?xd ?s ⟨[],rfl,nd,rfl,rfl⟩ ?turn) ?fin
 case hit=>
  show Rs.holds _ (rName (m (ofString "weights")))
  rw[hm]
  exact rfl
 case cl=>exact rfl
 case cell=>decide
 case kind=>exact rfl
 case names=>decide
 case x=>exact rfl
 case xd=>exact rfl
 case s=>exact fun _=>rfl
 case turn=>
  intro i v ys nw' A Cc E' hv hR hmW hA hnm
  (refine Uc.ex1 hR fun G=>Uc.an4 fun e1q ndw e2q hG=>?_;clear hR;subst e1q;subst e2q)
  obtain⟨n,t,rfl,hn⟩:∃n t,v=.int n t/\ws[i]? =some n:=by
   rcases intsAre_get hwv i with ⟨a,_⟩|⟨n,t,a,b⟩
   ·rw[a] at hv;cases hv
   ·rw[a] at hv;cases hv;exact⟨n,t,rfl,b⟩
  refine EvR.list (SpL.cons rfl (EvR.to (v:=.int n) (EvTo.of (TbOk.addN tb0 hnm) ?_) fun t2=>SpL.nil ⟨by show 1<=10000;decide,fun D hD=>?_⟩))
  ·walk_at "s"
   exact rfl
  refine⟨(D,listOf [Value.int n t2].toArray 0)::((gLed G).reverse++(cls P V++r)),fun z hz=>?_,fun p hp q hq=>?_,.tail _ hmW,G++[(D,[Value.int n t2],0)],?_,.cons (fun z hz=>hD z (List.mem_append_right _ hz)) ndw,?_,?_⟩
  ·rcases List.mem_append.mp hz with hz|hz
   ·exact .tail _ (List.mem_append_left _ hz)
   rcases List.mem_cons.mp hz with rfl|hz
   ·exact .head _
   ·exact .tail _ (List.mem_append_right _ hz)
  ·rcases List.mem_cons.mp hq with rfl|hq
   ·exact fun e=>hD p (List.mem_append_left _ hp) e.symm
   ·exact hA p hp q hq
  ·show _=(gLed (G++[(D,[Value.int n t2],0)])).reverse++_
   unfold gLed
   rw[List.map_append,List.reverse_append]
   rfl
  ·unfold gRef
   rw[List.map_append]
   rfl
  ·rw[List.take_add_one,hn,List.map_append]
   exact hG.snoc (.cons _ _ .nil)
 case fin=>
  intro v n hv
  (refine Uc.ex3 hv fun Gt ys nw'=>Uc.an4 fun e1q w7q e2q hne=>?_;clear hv;subst e1q;subst e2q);(refine Uc.ex1 w7q fun G=>Uc.an4 fun e1q ndw e2q hG=>?_;clear w7q;subst e1q;subst e2q)
  rw[hwl,List.take_of_length_le (Nat.le_refl _)] at hG
  (refine' Uc.SpL.cons ?_ ?_;exact rfl)
  refine EvR.list0 fun O hO=>?_
  (refine' Uc.SpL.pure ?_ (tb0) ?_;exact rfl;walk_at "s")
  intro tt
  have nd1:Nd ((O,listOf ([]:List Value).toArray 0)::(Gt,lst (gRef G))::((gLed G).reverse++(cls P V++r))):=.cons hO (.cons hne ndw)
  have pm:((O,listOf ([]:List Value).toArray 0)::(Gt,lst (gRef G))::((gLed G).reverse++(cls P V++r))).Perm (cls P V++((O,listOf ([]:List Value).toArray 0)::(Gt,lst (gRef G))::(gLed G++r))):=by
   refine List.Perm.trans ?_ (List.perm_append_comm_assoc [(O,listOf ([]:List Value).toArray 0),(Gt,lst (gRef G))] (cls P V) (gLed G++r))
   refine .cons _ (.cons _ ?_)
   refine List.Perm.trans (List.Perm.append_right _ (List.reverse_perm _)) ?_
   exact List.perm_append_comm_assoc (gLed G) (cls P V) r
  have nd2:=Nd.perm pm nd1
  refine SpL.nil ⟨rfl,cls P V++((O,listOf ([]:List Value).toArray 0)::(Gt,lst (gRef G))::(gLed G++r)),fun z hz=>pm.mem_iff.mpr hz,?_⟩
  refine' StsE.loc ?_ (StsE.cel (c:=P.L+9) (o:=P.o 9) (v₀:=V.off) 8 ?_ ?_ ?_ nd2 (StsE.cel (c:=P.L+10) (o:=P.o 10) (v₀:=V.to) 9 ?_ ?_ ?_ nd2 ⟨rfl,h Gt O G _ tt hG nd2⟩))
  ·exact rfl
  ·exact rfl
  ·exact rfl
  ·exact rfl
  ·exact rfl
  ·exact rfl
  ·exact rfl
end
end Uc
end
section
namespace Uc
theorem over_iff (L:Nat->Nat->Bool){u v:Nat}(hv:v<6):overZ L u=(v:Int)↔aboveAt L u=v:=by
 unfold overZ aboveAt
 cases popAll L u (pileAt L u) with
 |nil=>
  show(-1:Int)=(v:Int)↔6=v
  omega
 |cons q ps=>
  show((q:Nat):Int)=(v:Int)↔q=v
  omega
theorem visits_rep (T:List Nat)(s:Nat):∀i,visits T s i=Nat.repeat (visit T) i (visits T s 0)
 |0=>rfl
 |i+1=>by
  show visit T (visits T s i)=visit T (Nat.repeat (visit T) i (visits T s 0))
  rw[visits_rep T s i]
theorem repeat_succ {α:Type}(f:α->α):∀(n:Nat) (a:α),Nat.repeat f n (f a)=f (Nat.repeat f n a)
 |0,_=>rfl
 |n+1,a=>congrArg f (repeat_succ f n a)
theorem run_end {T:List Nat}:∀(n:Nat) (st:List Nat×List Nat),okRun T n st=true->(Nat.repeat (visit T) n st).1.isEmpty=true
 |0,st,h=>h
 |n+1,st,h=>by
  obtain⟨_,h2⟩:=Bool.and_eq_true_iff.mp h
  have:=run_end n _ h2
  rw[repeat_succ] at this
  exact this
theorem visit_keep (T:List Nat)(u:Nat):∀st:List Nat×List Nat,u∈st.1∨u∈st.2->u∈(visit T st).1∨u∈(visit T st).2
 |([],off),h=>h
 |(v::q,off),h=>by
  show u∈(if (kids T v off).isEmpty then(q,off++[v]) else(q++[v],off)).1∨u∈(if (kids T v off).isEmpty then(q,off++[v]) else(q++[v],off)).2
  split
  ·rcases h with h|h
   ·rcases List.mem_cons.mp h with rfl|h
    ·exact .inr (List.mem_append_right _ (.head _))
    ·exact .inl h
   ·exact .inr (List.mem_append_left _ h)
  ·rcases h with h|h
   ·rcases List.mem_cons.mp h with rfl|h
    ·exact .inl (List.mem_append_right _ (.head _))
    ·exact .inl (List.mem_append_left _ h)
   ·exact .inr h
theorem zero_in (T:List Nat){s:Nat}(hs:s<6):∀i,0∈(visits T s i).1∨0∈(visits T s i).2
 |0=>.inl (List.mem_map.mpr ⟨(6-s)%6,List.mem_range.mpr (Nat.mod_lt _ (by decide)),(by decide:∀s<6,(s+(6-s)%6)%6=0) s hs⟩)
 |i+1=>visit_keep T 0 _ (zero_in T hs i)
theorem visit_at {T:List Nat}(hT:T∈treesN 5){s i:Nat}(hs:s<6)(hi:i<=22)(h0:0 ∉ (visits T s i).2):i<22/\∃v q off,visits T s i=(v::q,off)/\v<6/\v ∉ off/\q=behind v off/\∀u∈off,(kids T u off).isEmpty=true:=by
 have hrun:=List.all_eq_true.mp (List.all_eq_true.mp run_all T hT) s (List.mem_range.mpr hs)
 have hne:∃v q off,visits T s i=(v::q,off):=by
  rcases e:visits T s i with ⟨q,off⟩
  cases q with
  |nil=>
   rcases zero_in T hs i with z|z
   ·rw[e] at z;cases z
   ·exact absurd z h0
  |cons v q=>exact⟨v,q,off,rfl⟩
 obtain⟨v,q,off,e⟩:=hne
 have hi2:i<22:=by
  rcases Nat.lt_or_ge i 22 with h|h
  ·exact h
  ·have hi22:i=22:=by omega
   have:=run_end 22 _ hrun
   rw[<-visits_rep, <-hi22,e] at this
   cases this
 refine⟨hi2,v,q,off,e,?_⟩
 have ok:=run_ok 22 _ hrun i hi2
 rw[<-visits_rep,e] at ok
 have ok':(q==behind v off&&decide (v<6)&& !off.contains v&&off.all (fun u=>(kids T u off).isEmpty))=true:=ok
 simp only[Bool.and_eq_true,beq_iff_eq,decide_eq_true_eq,Bool.not_eq_true'] at ok'
 refine⟨ok'.1.1.2,fun hm=>?_,ok'.1.1.1,fun u hu=>List.all_eq_true.mp ok'.2 u hu⟩
 have:=ok'.1.2
 rw[List.contains_iff_mem.mpr hm] at this
 cases this
theorem gath_sum (T:List Nat)(w:Nat->Int)(off:List Nat){gs:List (List Int)}(hg:∀u<6,(gs.getD u []).sum=gath T w off u)(hl:gs.length=6){v:Nat}(hv:v<6)(hn:v ∉ off){a:Nat}(ha:T.getD v 0=a)(ha6:a<6){x:Int}(hx:x=heavyT T w v):∀u<6,((gs.set a (gs.getD a []++[x])).getD u []).sum=gath T w (off++[v]) u:=by
 intro u hu
 rw[gath_off w hv hn u,List.getD_eq_getElem?_getD,List.getElem?_set]
 by_cases e:a=u
 ·subst e
  rw[if_pos rfl,if_pos (by omega),if_pos ha, <-hg a ha6, <-hx]
  show(gs.getD a []++[x]).sum=_
  rw[List.sum_append]
  simp
 ·rw[if_neg e,if_neg (by rw[ha];exact e),Int.add_zero, <-hg u hu,List.getD_eq_getElem?_getD]
structure Told (T:List Nat) (w:Nat->Int) (t:Nat) (off:List Nat):Prop where
 lt:t<6
 nof:t ∉ off
 half:((List.range 6).map w).sum<=2*heavyT T w t
 kid:∀c<6,T.getD c 0=t->2*heavyT T w c<((List.range 6).map w).sum
theorem told_of {T:List Nat}{w:Nat->Int}{v:Nat}{off:List Nat}(hv:v<6)(hn:v ∉ off)(hk:(kids T v off).isEmpty=true)(hoff:∀u∈off,2*heavyT T w u<((List.range 6).map w).sum)(hh:((List.range 6).map w).sum<=2*heavyT T w v):Told T w v off:=by
 refine⟨hv,hn,hh,fun c hc e=>hoff c ?_⟩
 refine Classical.byContradiction fun hno=>?_
 have:c∈kids T v off:=List.mem_filter.mpr ⟨List.mem_range.mpr hc,by show(T.getD c 0==v&& !off.contains c)=true;rw[e];simp[hno]⟩
 rw[List.isEmpty_iff.mp hk] at this
 cases this
theorem sum_nonneg {l:List Nat}{w:Nat->Int}(hw:∀k,0<=w k):0<=(l.map w).sum:=by
 induction l with
 |nil=>exact Int.le_refl _
 |cons a l ih=>rw[List.map_cons,List.sum_cons];exact Int.add_nonneg (hw a) ih
theorem offs_len (T:List Nat)(s:Nat):∀i,(visits T s i).2.length<=i/\(visits T s i).1.length<=6
 |0=>⟨Nat.le_refl _,by show((List.range 6).map _).length<=6;rw[List.length_map,List.length_range];exact Nat.le_refl _⟩
 |i+1=>by
  have ih:=offs_len T s i
  show(visit T (visits T s i)).2.length<=i+1/\(visit T (visits T s i)).1.length<=6
  rcases e:visits T s i with ⟨q,off⟩
  rw[e] at ih
  cases q with
  |nil=>exact⟨Nat.le_succ_of_le ih.1,ih.2⟩
  |cons v q=>
   have h1:off.length<=i:=ih.1
   have h2:q.length+1<=6:=ih.2
   show(if (kids T v off).isEmpty then(q,off++[v]) else(q++[v],off)).2.length<=i+1/\(if (kids T v off).isEmpty then(q,off++[v]) else(q++[v],off)).1.length<=6
   split
   ·simp only[List.length_append,List.length_cons,List.length_nil];omega
   ·simp only[List.length_append,List.length_cons,List.length_nil];omega
end Uc
end
section
namespace Uc
open PyProof.Rows.LCg PySem.Calls
theorem namV_inj:∀j<6,∀k<6,(names2.getD j Str.empty==namV k)=(j==k):=by decide+kernel
section
variable {C:Cx}{m:Str->Option Value}{nw:Led}{tb:Tb}{rest:List Stmt}{ks:List (List Stmt)}{pos:Pos}
theorem EvTo.index {x:Str}{e:Expr}{p1 p2 p3:Pos}{l:Addr}{vs:List Value}{n k:Nat}{pl:Sem Bool}(hx:NmIs C m nw x (.ref l))(hm:(l,listOf vs.toArray n)∈nw)(hI:StrsAre vs names2)(he:plainArg e=true)(hv:EvTo C m nw e (.str (namV k)))(hk:k<6)
  (hmt:eval (.Call (.Attribute (.Name x p1) (ofString "index") p2) [e] [] p3) C.env=(do
   let ov<-eval (.Name x p1) C.env
   standAt p2.atName
   let (f,first)<-holding [ov] (getMethod ov (ofString "index") pl)
   callWith p3 f first (backTo p3 (starEach [e] C.env)) [])):EvTo C m nw (.Call (.Attribute (.Name x p1) (ofString "index") p2) [e] [] p3) (.int (k:Int)):=fun Q q h0 tk F N=>by
 refine MethodCall_ (hx.ev _ _ (fun h1 tk1 F1 N1=>?_) h0 tk F N) hmt
 refine getMethod_list_of (s:=C.sg h1 tk1) PySem.F.slot_list_index PySem.F.type_list_index (News.isList N1 hm) ⟨_,(N1 _ hm).1,rfl⟩ ?_
 refine callWith_method1 (args_cons (hv _ (fun t h2 tk2 F2 N2=>args_nil ?_) h1 tk1 F1 N1) (star1 he)) (star1 he)
 have hl:vs.length=6:=StrsAre.len_eq hI
 have hat:∀j (hj:j<vs.toArray.size),isStrOf (namV k) vs.toArray[j]=(j==k):=fun j hj=>by
  have hj6:j<6:=by rw[List.size_toArray] at hj;omega
  obtain⟨t',e'⟩:=hI.get j (names2.getD j Str.empty) (by rw[List.getD_eq_getElem?_getD,List.getElem?_eq_getElem (show j<names2.length from hj6)];rfl)
  have e2:vs.toArray[j]=.str (names2.getD j Str.empty) t':=by
   have:=(List.getElem?_eq_some_iff.mp e').2
   simpa using this
  rw[e2]
  exact namV_inj j hj6 k hk
 refine call_meets PySem.F.slot_list_index ⟨_,(N2 _ hm).1,rfl⟩ PySem.F.entry_list_index (PySem.F.args_list_index_2 _ _)
  (PySem.SeqAt.list_indexAt l vs.toArray n none #[] (.str (namV k) t) (isStrOf (namV k)) k (by rw[List.size_toArray];omega) (by omega) ?_ ?_) ⟨(N2 _ hm).1,fun y hy=>(eq_isStrOf (namV k) t hI y (by simpa using hy)).at _ _,q _ h2 _ F2 N2⟩
 ·rw[hat,beq_self_eq_true]
 ·intro j hj hlt
  rw[hat]
  exact beq_eq_false_iff_ne.mpr (Nat.ne_of_lt hlt)
theorem J.appO {o e:Expr}{pa pc:Pos}{D:Addr}{vs:List Value}{n:Nat}(k:Nat)(nd:Nd nw)(hk:nw[k]? =some (D,listOf vs.toArray n))(ho:EvTo C m nw o (.val (.ref D)))(he:plainArg e=true)(hl:vs.length<=16777216)
  (hi:interactive C.env=false) (hs:swapsWith (.Call (.Attribute o "append" pa) [e] [] pc) none pos.line C.env=pure false)
  {pl:Sem Bool} (hm:eval (.Call (.Attribute o "append" pa) [e] [] pc) C.env=(do
   let ov<-eval o C.env
   standAt pa.atName
   let (f,first)<-holding [ov] (getMethod ov "append" pl)
   callWith pc f first (backTo pc (starEach [e] C.env)) []))
  {v:PV} (hb:EvTo C m nw e v) (h:∀t,J C m (nw.set k (D,listOf (vs++[v.den t]).toArray (n+1))) rest ks):
  J C m nw (.Expr (.Call (.Attribute o "append" pa) [e] [] pc) pos::rest) ks:=by
 refine J.step fun h0 tk F N=>wpAny_Expr_any (MethodCall_ (ho _ (fun _ h1 tk1 F1 N1=>?_) h0 tk F N) hm) hi hs
 refine PySem.Calls.getMethod_list_append (s:=C.sg h1 tk1) (N1.get (List.mem_of_getElem? hk)) rfl rfl ?_
 refine callWith_method1 (args_cons ?_ (star1 he)) (star1 he)
 refine hb _ (fun t h2 tk2 F2 N2=>?_) _ _ F1 N1
 have z:=N2 _ (List.mem_of_getElem? hk)
 refine args_nil (append_at (s:=C.sg h2 tk2) (hsz:=?_) z.1 fun h3 hs3 hD3=>h t h3 tk2 (F2.change hs3 z.2.1 z.2.2) (newsK N2 nd hk hs3 (by rw[<-List.push_toArray];exact hD3)))
 show vs.toArray.size<=sizeLine
 rw[List.size_toArray]
 exact hl
end
theorem gLed_at {G:List (Addr×List Value×Nat)}{r:Led}{a:Nat}{z:Addr×List Value×Nat}(h:G[a]? =some z):(gLed G++r)[a]? =some (z.1,listOf z.2.1.toArray z.2.2):=by
 have hl:=(List.getElem?_eq_some_iff.mp h).1
 rw[List.getElem?_append_left (by rw[List.length_map];exact hl),List.getElem?_map,h]
 rfl
theorem gLed_set {G:List (Addr×List Value×Nat)}{r:Led}{a:Nat}{z:Addr×List Value×Nat}(h:a<G.length):(gLed G++r).set a (z.1,listOf z.2.1.toArray z.2.2)=gLed (G.set a z)++r:=by
 rw[List.set_append_left _ _ (by rw[List.length_map];exact h)]
 unfold gLed
 rw[List.map_set]
theorem set_same {α:Type}{l:List α}{a:Nat}{x:α}(h:l[a]? =some x):l.set a x=l:=by
 refine List.ext_getElem? fun i=>?_
 rw[List.getElem?_set]
 split
 ·rename a=i=>e
  subst e
  rw[if_pos (List.getElem?_eq_some_iff.mp h).1,h]
 ·rfl
theorem gRef_set {G:List (Addr×List Value×Nat)}{a:Nat}{z y:Addr×List Value×Nat}(h:G[a]? =some z)(e:y.1=z.1):gRef (G.set a y)=gRef G:=by
 unfold gRef
 rw[List.map_set,e]
 exact set_same (by rw[List.getElem?_map,h];rfl)
theorem lead0_all:(leadsN 4).all (fun m=>m.isEmpty||lessCol [] m)=true:=by decide+kernel
noncomputable abbrev L2 (nums:List Nat):Nat->Nat->Bool:=lessAt (leads2 nums)
noncomputable abbrev T2 (nums:List Nat):List Nat:=(List.range 6).map (aboveAt (L2 nums))
noncomputable abbrev w2 (nums:List Nat)(k:Nat):Int:=((pri2 nums k:Nat):Int)
theorem first_less (nums:List Nat):∀k,0<k->k<6->L2 nums 0 k=true:=by
 intro k h0 hk
 show lessCol ((leads2 nums).getD 0 []) ((leads2 nums).getD k [])=true
 rw[leads2_at nums (by decide),leads2_at nums hk]
 have hm:=List.all_eq_true.mp lead0_all (lead2 nums k) (leads_mem 4 _ (lead2_ok nums k).1 (lead2_ok nums k).2)
 have e0:lead2 nums 0=[]:=rfl
 have ek:(lead2 nums k).isEmpty=false:=by
  unfold lead2 leadOf2
  rw[if_neg (by omega)]
  cases e:(1+nums.getD k 0%4) with
  |zero=>omega
  |succ n=>rw[List.range_succ_eq_map];rfl
 rw[ek,Bool.false_or] at hm
 rw[e0]
 exact hm
theorem T2_in (nums:List Nat):T2 nums∈treesN 5:=tree_in _ (first_less nums)
theorem T2_at (nums:List Nat){u:Nat}(h:u<6):(T2 nums).getD u 0=aboveAt (L2 nums) u:=by
 rw[List.getD_eq_getElem?_getD,List.getElem?_map,List.getElem?_range h]
 rfl
theorem over_kid (nums:List Nat){u v:Nat}(hu:u<6)(hv:v<6)(off:List Nat):(overZ (L2 nums) u=(v:Int)/\¬ (u:Int)∈off.map fun(n:Nat)=>(n:Int))↔((T2 nums).getD u 0==v&& !off.contains u)=true:=by
 rw[over_iff _ hv,T2_at nums hu]
 simp only[Bool.and_eq_true,beq_iff_eq,Bool.not_eq_true',List.mem_map,List.contains_eq_mem,decide_eq_false_iff_not]
 refine and_congr Iff.rfl (not_congr ⟨fun⟨n,hn,e⟩=>?_,fun h=>⟨u,h,rfl⟩⟩)
 have:n=u:=by omega
 exact this▸hn
theorem over_of (nums:List Nat){v:Nat}(h0:v≠0)(hv:v<6):overZ (L2 nums) v=(((T2 nums).getD v 0:Nat):Int)/\(T2 nums).getD v 0<6:=by
 have hlt:=above_lt (L2 nums) (first_less nums) (Nat.pos_of_ne_zero h0) hv
 rw[T2_at nums hv]
 exact⟨(over_iff _ (by omega)).mpr rfl,by omega⟩
end Uc
end
section
namespace Uc
open PyProof.Rows.LCg PySem.Calls
set_option genInjectivity false in
set_option genSizeOf false in
structure S9 where
 ov:List Value
 on:Nat
 ps:List Value
 pn:Nat
 G:List (Addr×List Value×Nat)
noncomputable abbrev led9 (P:LP)(V:CV)(q:Lex)(ln:Int)(tl:Tok)(ss:List Value)(sn:Nat)(O Gt:Addr)(gr:List Value)(gn:Nat)(r:Led)(vk:Option Value)(z:S9):Led:=
 cls P { V with k:=vk }++((O,listOf z.ov.toArray z.on)::(lexLed P.w q ln tl z.ps z.pn ss sn++(gLed z.G++((Gt,listOf gr.toArray gn)::r))))
structure R9 (nums:List Nat) (gr:List Value) (b:Nat) (qu off:List Nat) (z:S9):Prop where
 ps:StrsAre z.ps (qu.map namV)
 ov:IntsAre z.ov (off.map fun(n:Nat)=>(n:Int))
 hh:∀u∈off,2*heavyT (T2 nums) (w2 nums) u<((List.range 6).map (w2 nums)).sum
 gs:∃gs,GOk z.G gs/\gs.length=6/\(∀u<6,(gs.getD u []).sum=gath (T2 nums) (w2 nums) off u)/\∀u<6,(gs.getD u []).length<=b
 ga:gRef z.G=gr
noncomputable abbrev nms9 (Gt a b e la pb:Addr)(x:List Nat)(tx:Tok):Nms:=(ofString "gathered",.ref Gt)::nms6 a b e la pb x tx
noncomputable def lb9:List Stmt:=by
 refine(fun(_:(forBody ls9).drop 2=[?a])=>[?a]) ?h
 case h=>exact rfl
theorem at_nat {f:Nat->Int}{n i:Nat}(h:i<n):((List.range n).map f).getD (i:Int).toNat 0=f i:=by
 rw[Int.toNat_natCast,List.getD_eq_getElem?_getD,List.getElem?_map,List.getElem?_range h]
 rfl
section
variable {P:LP}{V:CV}{r:Led}{p:Program}{loose:List Str}{mean:ExcName->Option Value}{mg mb:Str->Option Value}
theorem law_s9b {q:Lex}{n0:Led}{O Gt a b c e la pb:Addr}{av wv ss gr:List Value}{an wn gn sn:Nat}{ln:Int}{tl tx t t2:Tok}{x nums:List Nat}{u:Str->Option Value}{v bd:Nat}{qu off:List Nat}{z:S9}(ok:CxOk P.C p loose mean mg mb (fun h=>CodeHd h 213 209) 30 120)(hE:PassesOwn P.C.M P.C.A P.C.env P.C.E)(lok:LexOk q n0)(hX:V.lx=some (.ref q.X))(hA:V.ab=some (.ref c))(hO:V.off=some (.ref O))
  (ham:(c,listOf av.toArray an)∈r) (hav:IntsAre av ((List.range 6).map (overZ (L2 nums)))) (hwm:(b,listOf wv.toArray wn)∈r) (hwv:IntsAre wv ((List.range 6).map (w2 nums)))
  (hv:v<6) (hvo:v ∉ off) (hql:qu.length<=6) (hol:off.length<=22) (hbd:bd<=30) (hR:R9 nums gr bd qu off z)
  (nd:Nd (led9 P V q ln tl ss sn O Gt gr gn r (some (.int (v:Int) t)) z))
  (h:∀u z,R9 nums gr (bd+1) (visit (T2 nums) (v::qu,off)).1 (visit (T2 nums) (v::qu,off)).2 z->(0 ∉ off->0 ∉ (visit (T2 nums) (v::qu,off)).2)->Nd (led9 P V q ln tl ss sn O Gt gr gn r (some (.int (v:Int) t)) z)->J P.C (fm u ((ofString "name",.str (namV v) t2)::nms9 Gt a b e la pb x tx)) (led9 P V q ln tl ss sn O Gt gr gn r (some (.int (v:Int) t)) z) [] [])
  (hb:∀u z t3,R9 nums gr bd qu off z->(kids (T2 nums) v off).isEmpty=true->((List.range 6).map (w2 nums)).sum<=2*heavyT (T2 nums) (w2 nums) v->Nd (led9 P { V with to:=some (.int (v:Int) t3) } q ln tl ss sn O Gt gr gn r (some (.int (v:Int) t)) z)->At P.C (fm u ((ofString "name",.str (namV v) t2)::nms9 Gt a b e la pb x tx)) (led9 P { V with to:=some (.int (v:Int) t3) } q ln tl ss sn O Gt gr gn r (some (.int (v:Int) t)) z) (P.C.Q .brk)):
  J P.C (fm u ((ofString "name",.str (namV v) t2)::nms9 Gt a b e la pb x tx)) (led9 P V q ln tl ss sn O Gt gr gn r (some (.int (v:Int) t)) z) lb9 []:=by
 obtain⟨ov,on,ps,pn,G⟩:=z
 obtain⟨hps,hov,hhh,w8q,hga⟩:=hR;(refine Uc.ex1 w8q fun gs=>Uc.an4 fun hG hgl hgs hgb=>?_;clear w8q)
 dsimp -zeta only at hps hov hhh hG hga nd ⊢
 subst hga
 have hr:∀y∈r,y∈cls P { V with k:=some (.int (v:Int) t) }++((O,listOf ov.toArray on)::(lexLed P.w q ln tl ps pn ss sn++(gLed G++((Gt,listOf (gRef G).toArray gn)::r)))):=fun y hy=>List.mem_append_right _ (.tail _ (List.mem_append_right _ (List.mem_append_right _ (.tail _ hy))))
 have hgm:(Gt,listOf (gRef G).toArray gn)∈cls P { V with k:=some (.int (v:Int) t) }++((O,listOf ov.toArray on)::(lexLed P.w q ln tl ps pn ss sn++(gLed G++((Gt,listOf (gRef G).toArray gn)::r)))):=List.mem_append_right _ (.tail _ (List.mem_append_right _ (List.mem_append_right _ (.head _))))
 have hgg:∀y∈gLed G,y∈cls P { V with k:=some (.int (v:Int) t) }++((O,listOf ov.toArray on)::(lexLed P.w q ln tl ps pn ss sn++(gLed G++((Gt,listOf (gRef G).toArray gn)::r)))):=fun y hy=>List.mem_append_right _ (.tail _ (List.mem_append_right _ (List.mem_append_left _ hy)))
 have hom:(O,listOf ov.toArray on)∈cls P { V with k:=some (.int (v:Int) t) }++((O,listOf ov.toArray on)::(lexLed P.w q ln tl ps pn ss sn++(gLed G++((Gt,listOf (gRef G).toArray gn)::r)))):=List.mem_append_right _ (.head _)
 obtain⟨led,hled⟩:∃l,l=cls P { V with k:=some (.int (v:Int) t) }++((O,listOf ov.toArray on)::(lexLed P.w q ln tl ps pn ss sn++(gLed G++((Gt,listOf (gRef G).toArray gn)::r)))):=⟨_,rfl⟩
 have hpl:=StrsAre.len_eq hps
 rw[List.length_map] at hpl
 have tbK:=TbOk.addN (x:=ofString "k") (tb0 (C:=P.C) (m:=fm u ((ofString "name",.str (namV v) t2)::nms9 Gt a b e la pb x tx)) (nw:=cls P { V with k:=some (.int (v:Int) t) }++((O,listOf ov.toArray on)::(lexLed P.w q ln tl ps pn ss sn++(gLed G++((Gt,listOf (gRef G).toArray gn)::r)))))) (.cellV 3 rfl rfl rfl rfl rfl)
 have tbG:=TbOk.addQ (x:=ofString "gathered") (TbOk.addQ (x:=ofString "weights") tbK (.loc rfl rfl rfl) (sv:=.nn ((List.range 6).map (w2 nums))) ⟨wv,wn,hr _ hwm,hwv⟩) (.loc rfl rfl rfl) (sv:=.mm gs) ⟨gRef G,gn,hgm,hG.rows hgg⟩
 unfold lb9
 dsimp -zeta only
 refine' J.iteX (p:=¬ kids (T2 nums) v off=[]) ?test ?yes ?no
 case test=>
  refine BTo.ne fun Q q'=>?_
  (refine' Uc.compR (a:=0) (b:=6) 6 (fun i=>.int (i:Int)) (fun u=>((T2 nums).getD u 0==v&& !off.contains u)) ?ahit ?asm ?ars ?ahz ?acl ?acell ?akind ?anames ?ax ?axd ?as ?aturn ?aq;(case acl=>exact rfl);(case acell=>decide);(case akind=>exact rfl);(case anames=>decide);(case ax=>exact rfl);(case axd=>exact rfl);(case as=>exact fun _=>rfl);(case' asm=>try decide);(case' ars=>try decide);(case' ahz=>try decide))
  case ahit=>
   refine range1 tb0 ?_ ?_ ?_
   ·exact rfl
   ·exact rfl
   walk_at "s"
   exact rfl
  case aturn=>
   intro i t3 Cc E' nw' hi hs C2 hnm2
   rw[Int.zero_add] at hnm2
   have tb2:=TbOk.addQ (x:=ofString "off") (TbOk.addQ (x:=ofString "above") (TbOk.addN (x:=ofString "k") (TbOk.addN (tb0 (C:=C2) (m:=fm u ((ofString "name",.str (namV v) t2)::nms9 Gt a b e la pb x tx)) (nw:=nw')) hnm2) (.cellU 3 rfl hs rfl rfl rfl rfl)) (.cellU 7 hA hs rfl rfl rfl rfl) (sv:=.nn ((List.range 6).map (overZ (L2 nums)))) ⟨av,an,hs _ (hr _ ham),hav⟩) (.cellU 8 hO hs rfl rfl rfl rfl) (sv:=.nn (off.map fun(n:Nat)=>(n:Int))) ⟨ov,on,hs _ hom,hov⟩
   refine⟨overZ (L2 nums) i=(v:Int)/\¬ (i:Int)∈off.map (fun(n:Nat)=>(n:Int)),BTo.of tb2 ?b1,over_kid nums hi hv off,fun _=>EvTo.of tb2 ?b2⟩
   case b2=>walk_at "s";exact rfl
   case b1=>
    refine' Uc.Bs.holds_c ?jp ?jc ?_
    case jp=>exact rfl
    case jc=>
     rw[List.length_map,List.length_range]
     omega
    rw[at_nat hi]
  case aq=>
   intro D vs hvd hD
   refine q' D vs _ _ (.head _) (fun _ h=>.tail _ h) (not_congr ?_)
   rw[<-List.length_eq_zero_iff,VsDen.len hvd,List.length_map,List.length_eq_zero_iff]
   exact Iff.rfl
 case yes=>
  intro hk
  have hk':(kids (T2 nums) v off).isEmpty=false:=by
   cases e:kids (T2 nums) v off with
   |nil=>exact absurd e hk
   |cons _ _=>rfl
  have ev:visit (T2 nums) (v::qu,off)=(qu++[v],off):=by
   show(if _ then _ else _)=_
   rw[if_neg (by rw[hk'];decide)]
  rw[ev] at h
  have tbN:=TbOk.addN (x:=ofString "name") (tb0 (C:=P.C) (m:=fm u ((ofString "name",.str (namV v) t2)::nms9 Gt a b e la pb x tx)) (nw:=cls P { V with k:=some (.int (v:Int) t) }++((O,listOf ov.toArray on)::(lexLed P.w q ln tl ps pn ss sn++(gLed G++((Gt,listOf (gRef G).toArray gn)::r)))))) (.loc rfl rfl rfl)
  refine' J.exprR ?e1 ?e2 (EvR.mono (EvR.push (A:=cls P { V with k:=some (.int (v:Int) t) }++[(O,listOf ov.toArray on)]) (r:=gLed G++((Gt,listOf (gRef G).toArray gn)::r)) (v:=.str (namV v)) ok (by decide) (by decide) lok nd ?e3 (by omega) ?e4 (EvTo.of tbN ?e5) ?e6) ?e7)
  case e1=>exact rfl
  case e2=>exact rfl
  case e3=>exact .cellV 6 hX rfl rfl rfl rfl
  case e4=>exact rfl
  case e5=>walk_at "s";exact rfl
  case e6=>exact rfl
  case e7=>
   intro y n hy
   obtain⟨pn',t5,rfl⟩:=hy
   refine J.nil (h u ⟨ov,on,ps++[Value.str (namV v) t5],pn',G⟩ ⟨?_,hov,hhh,⟨gs,hG,hgl,hgs,fun u hu=>Nat.le_succ_of_le (hgb u hu)⟩,rfl⟩ (fun h=>h) nd)
   rw[List.map_append]
   exact StrsAre.append' hps (.cons _ _ .nil)
 case no=>
  intro hk
  replace hk:(kids (T2 nums) v off).isEmpty=true:=by rw[Decidable.not_not.mp hk];rfl
  have eg:(gs.getD v []).sum=heavyT (T2 nums) (w2 nums) v:=(hgs v hv).trans (gath_leaf (T2_in nums) (w2 nums) hv hk)
  refine' J.iteX (p:=((List.range 6).map (w2 nums)).sum<=2*heavyT (T2 nums) (w2 nums) v) (BTo.of tbG ?t2) ?yes2 ?no2
  case t2=>
   refine' Uc.Bs.holds_c ?jp ?jc ?_
   case jp=>exact rfl
   case jc=>omega
   rw[Int.toNat_natCast,eg]
  case yes2=>
   intro hw
   refine' J.asgK 9 tbK nd ?a1 ?a2 ?a3 ?a4 ?a5
   case a1=>exact rfl
   case a2=>exact rfl
   case a3=>exact rfl
   case a4=>exact rfl
   case a5=>
    walk_at "s"
    intro t3
    exact J.brk (hb u ⟨ov,on,ps,pn,G⟩ t3 ⟨hps,hov,hhh,⟨gs,hG,hgl,hgs,hgb⟩,rfl⟩ hk hw nd)
  case no2=>
   intro hw
   have hv0:v≠0:=fun e0=>hw (by
    rw[e0,heavy_root (T2_in nums)]
    have:0<=((List.range 6).map (w2 nums)).sum:=sum_nonneg fun k=>Int.natCast_nonneg _
    omega)
   obtain⟨eo,ha6⟩:=over_of nums hv0 hv
   obtain⟨j,hj⟩:∃j,j=(T2 nums).getD v 0:=⟨_,rfl⟩
   rw[<-hj] at eo ha6
   have hGl:G.length=6:=by rw[hG.len,hgl]
   obtain⟨y,hy⟩:∃y,G[j]? =some y:=⟨_,List.getElem?_eq_getElem (by omega)⟩
   have hyI:=hG.at hy
   have hyl:=intsAre_len hyI
   have:=hgb j ha6
   have tbR:=TbOk.addQ (x:=ofString "above") (TbOk.addQ (x:=ofString "gathered") tbK (.loc rfl rfl rfl) (sv:=.rr (G.map (·.1))) ⟨gn,by rw[List.map_map];exact hgm⟩) (.cellV 7 hA rfl rfl rfl rfl) (sv:=.nn ((List.range 6).map (overZ (L2 nums)))) ⟨av,an,hr _ ham,hav⟩
   have hkj:(cls P { V with k:=some (.int (v:Int) t) }++((O,listOf ov.toArray on)::(lexLed P.w q ln tl ps pn ss sn++(gLed G++((Gt,listOf (gRef G).toArray gn)::r)))))[j+23]? =some (y.1,listOf y.2.1.toArray y.2.2):=by
    show((cls P { V with k:=some (.int (v:Int) t) }++((O,listOf ov.toArray on)::lexLed P.w q ln tl ps pn ss sn))++(gLed G++((Gt,listOf (gRef G).toArray gn)::r)))[j+23]? =_
    rw[List.getElem?_append_right (by show 23<=j+23;omega)]
    show(gLed G++((Gt,listOf (gRef G).toArray gn)::r))[j+23-23]? =_
    rw[Nat.add_sub_cancel]
    exact gLed_at hy
   have hset:∀z:Addr×List Value×Nat,(cls P { V with k:=some (.int (v:Int) t) }++((O,listOf ov.toArray on)::(lexLed P.w q ln tl ps pn ss sn++(gLed G++((Gt,listOf (gRef G).toArray gn)::r))))).set (j+23) (z.1,listOf z.2.1.toArray z.2.2)=cls P { V with k:=some (.int (v:Int) t) }++((O,listOf ov.toArray on)::(lexLed P.w q ln tl ps pn ss sn++(gLed (G.set j z)++((Gt,listOf (gRef G).toArray gn)::r)))):=by
    intro z
    show((cls P { V with k:=some (.int (v:Int) t) }++((O,listOf ov.toArray on)::lexLed P.w q ln tl ps pn ss sn))++(gLed G++((Gt,listOf (gRef G).toArray gn)::r))).set (j+23) (z.1,listOf z.2.1.toArray z.2.2)=_
    rw[List.set_append_right _ _ (by show 23<=j+23;omega)]
    show _++(gLed G++((Gt,listOf (gRef G).toArray gn)::r)).set (j+23-23) _=_
    rw[Nat.add_sub_cancel,gLed_set (by omega)]
    rfl
   refine' J.appO (v:=.int (heavyT (T2 nums) (w2 nums) v)) (j+23) nd hkj (EvTo.of tbR ?o1) ?o2 ?o3 ?o4 ?o5 ?o6 (EvTo.of tbG ?o7) ?o8
   case o1=>
    refine' Uc.Rs.holds_c ?jp ?jc ?_
    case jp=>exact rfl
    case jc=>
     rw[at_nat hv,eo,List.length_map,List.length_range,List.length_map,hGl]
     omega
    rw[at_nat hv,eo,Int.toNat_natCast,List.getD_eq_getElem?_getD,List.getElem?_map,hy]
    rfl
   case o2=>exact rfl
   case o3=>omega
   case o4=>exact rfl
   case o5=>exact rfl
   case o6=>exact rfl
   case o7=>
    refine' Uc.Rs.holds_c ?jp ?jc ?_
    case jp=>exact rfl
    case jc=>omega
    rw[Int.toNat_natCast,eg]
   case o8=>
    intro t6
    have ndS:=Nd.set (o':=listOf (y.2.1++[Value.int (heavyT (T2 nums) (w2 nums) v) t6]).toArray (y.2.2+1)) nd hkj
    rw[hset (y.1,y.2.1++[Value.int (heavyT (T2 nums) (w2 nums) v) t6],y.2.2+1)] at ndS
    show J P.C _ (List.set _ _ (y.1,listOf (y.2.1++[Value.int (heavyT (T2 nums) (w2 nums) v) t6]).toArray (y.2.2+1))) _ _
    rw[hset (y.1,y.2.1++[Value.int (heavyT (T2 nums) (w2 nums) v) t6],y.2.2+1)]
    have ega:gRef (G.set j (y.1,y.2.1++[Value.int (heavyT (T2 nums) (w2 nums) v) t6],y.2.2+1))=gRef G:=gRef_set hy rfl
    have tbO:=TbOk.addN (x:=ofString "off") (TbOk.addN (x:=ofString "k") (tb0 (C:=P.C) (m:=fm u ((ofString "name",.str (namV v) t2)::nms9 Gt a b e la pb x tx)) (nw:=cls P { V with k:=some (.int (v:Int) t) }++((O,listOf ov.toArray on)::(lexLed P.w q ln tl ps pn ss sn++(gLed (G.set j (y.1,y.2.1++[Value.int (heavyT (T2 nums) (w2 nums) v) t6],y.2.2+1))++((Gt,listOf (gRef G).toArray gn)::r)))))) (.cellV 3 rfl rfl rfl rfl rfl)) (.cellV 8 hO rfl rfl rfl rfl)
    have hovl:=intsAre_len hov
    rw[List.length_map] at hovl
    (refine' Uc.J.appK (v:=.int (v:Int)) 13 (tbO) (ndS) ?abk ?abx ?abe ?abl ?abi ?abs ?abm ?abb ?abh;(case abk=>exact rfl);(case abx=>exact rfl);(case abe=>exact rfl);(case abi=>exact rfl);(case abs=>exact rfl);(case abm=>exact rfl))
    case abl=>omega
    case abb=>
     refine EvTo.of tbO ?_
     walk_at "s"
     exact rfl
    case abh=>
     intro t7
     (repeat(refine Uc.J.nil ?_))
     have ev:visit (T2 nums) (v::qu,off)=(qu,off++[v]):=by
      show(if _ then _ else _)=_
      rw[if_pos hk]
     rw[ev] at h
     refine h u ⟨ov++[Value.int (v:Int) t7],on+1,ps,pn,G.set j (y.1,y.2.1++[Value.int (heavyT (T2 nums) (w2 nums) v) t6],y.2.2+1)⟩ ⟨hps,?_,?_,⟨gs.set j (gs.getD j []++[heavyT (T2 nums) (w2 nums) v]),GOk.set hG (hyI.append (.cons _ _ .nil)),by rw[List.length_set,hgl],gath_sum (T2 nums) (w2 nums) off hgs hgl hv hvo hj.symm ha6 rfl,?_⟩,ega⟩ ?_ ?_
     ·rw[List.map_append]
      exact hov.append (.cons _ _ .nil)
     ·intro u hu
      rcases List.mem_append.mp hu with hu|hu
      ·exact hhh u hu
      ·rw[List.mem_singleton.mp hu];omega
     ·intro u hu
      rw[List.getD_eq_getElem?_getD,List.getElem?_set]
      by_cases e1:j=u
      ·rw[if_pos e1,if_pos (by omega)]
       show(gs.getD j []++[_]).length<=bd+1
       rw[List.length_append]
       exact Nat.succ_le_succ this
      ·rw[if_neg e1, <-List.getD_eq_getElem?_getD]
       exact Nat.le_succ_of_le (hgb u hu)
     ·intro h0 hm
      rcases List.mem_append.mp hm with hm|hm
      ·exact h0 hm
      ·exact hv0 (List.mem_singleton.mp hm).symm
     ·exact ndS
end
end Uc
end
section
namespace Uc
open PyProof.Rows.LCg PySem.Calls
theorem led9_ad {P P':LP}{V V':CV}{q:Lex}{ln:Int}{tl:Tok}{ss gr:List Value}{sn gn:Nat}{O Gt:Addr}{r:Led}{vk vk':Option Value}{z z':S9}(hL:P.L=P'.L)(e1:gRef z.G=gr)(e2:gRef z'.G=gr):(led9 P V q ln tl ss sn O Gt gr gn r vk z).map (·.1)=(led9 P' V' q ln tl ss sn O Gt gr gn r vk' z').map (·.1):=by
 have e3:(gLed z.G).map (·.1)=(gLed z'.G).map (·.1):=by
  have e4:z.G.map (·.1)=z'.G.map (·.1):=by
   have:=congrArg (List.map fun v:Value=>match v with| .ref a=>a|_=>0) (e1.trans e2.symm)
   unfold gRef at this
   rw[List.map_map,List.map_map] at this
   exact this
  unfold gLed
  rw[List.map_map,List.map_map]
  exact e4
 show List.map _ ((cls P { V with k:=vk }++((O,listOf z.ov.toArray z.on)::lexLed P.w q ln tl z.ps z.pn ss sn))++(gLed z.G++((Gt,listOf gr.toArray gn)::r)))=List.map _ ((cls P' { V' with k:=vk' }++((O,listOf z'.ov.toArray z'.on)::lexLed P'.w q ln tl z'.ps z'.pn ss sn))++(gLed z'.G++((Gt,listOf gr.toArray gn)::r)))
 rw[List.map_append,List.map_append (l₁:=cls P' { V' with k:=vk' }++_),List.map_append (l₁:=gLed z.G),List.map_append (l₁:=gLed z'.G),e3]
 refine congrArg (· ++_) ?_
 show[P.L+1,P.L+2,P.L+3,P.L+4,P.L+5,P.L+6,P.L+7,P.L+8,P.L+9,P.L+10,P.L+11,P.L+12,P.L+13,O,q.X,q.D,q.PB,q.SF,q.SD,q.RF,q.RC,q.CC,q.SG]=_
 rw[hL]
 rfl
section
variable {P:LP}{V:CV}{r:Led}{rest:List Stmt}{ks:List (List Stmt)}{p:Program}{loose:List Str}{mean:ExcName->Option Value}{mg mb:Str->Option Value}
theorem gs_start {nums:List Nat}:∀u<6,(((List.range 6).map fun k=>[w2 nums k]).getD u []).sum=gath (T2 nums) (w2 nums) [] u/\(((List.range 6).map fun k=>[w2 nums k]).getD u []).length<=1:=by
 intro u hu
 have:((List.range 6).map fun k=>[w2 nums k]).getD u []=[w2 nums u]:=by
  rw[List.getD_eq_getElem?_getD,List.getElem?_map,List.getElem?_range hu]
  rfl
 rw[this,gath_nil]
 exact⟨by simp,Nat.le_refl _⟩
theorem law_s9 {q:Lex}{n0:Led}{O Gt N a b c e la pb:Addr}{nv av wv ss ps:List Value}{nn an wn gn sn pn:Nat}{ln:Int}{tl tx:Tok}{x nums:List Nat}{u:Str->Option Value}{G:List (Addr×List Value×Nat)}(ok:CxOk P.C p loose mean mg mb (fun h=>CodeHd h 213 209) 30 120)(hE:PassesOwn P.C.M P.C.A P.C.env P.C.E)(lok:LexOk q n0)(hX:V.lx=some (.ref q.X))(hA:V.ab=some (.ref c))(hO:V.off=some (.ref O))(hN:V.na=some (.ref N))
  (hnm:(N,listOf nv.toArray nn)∈r) (hnv:StrsAre nv names2) (ham:(c,listOf av.toArray an)∈r) (hav:IntsAre av ((List.range 6).map (overZ (L2 nums)))) (hwm:(b,listOf wv.toArray wn)∈r) (hwv:IntsAre wv ((List.range 6).map (w2 nums)))
  (hG:GOk G (((List.range 6).map (w2 nums)).map fun w=>[w])) (hps:StrsAre ps ((List.range 6).map fun j=>namV ((st2 nums+j)%6)))
  (nd:Nd (cls P V++((O,listOf ([]:List Value).toArray 0)::(Gt,listOf (gRef G).toArray gn)::(gLed G++(lexLed P.w q ln tl ps pn ss sn++r)))))
  (h:∀u z vk t3 v off bd,R9 nums (gRef G) bd (behind v off) off z->Told (T2 nums) (w2 nums) v off->off.length<=22->Nd (led9 P { V with to:=some (.int (v:Int) t3) } q ln tl ss sn O Gt (gRef G) gn r vk z)->J P.C (fm u (nms9 Gt a b e la pb x tx)) (led9 P { V with to:=some (.int (v:Int) t3) } q ln tl ss sn O Gt (gRef G) gn r vk z) rest ks):
  J P.C (fm u (nms9 Gt a b e la pb x tx)) (cls P V++((O,listOf ([]:List Value).toArray 0)::(Gt,listOf (gRef G).toArray gn)::(gLed G++(lexLed P.w q ln tl ps pn ss sn++r)))) (ls9::rest) ks:=by
 have pm:(cls P V++((O,listOf ([]:List Value).toArray 0)::(Gt,listOf (gRef G).toArray gn)::(gLed G++(lexLed P.w q ln tl ps pn ss sn++r)))).Perm (led9 P V q ln tl ss sn O Gt (gRef G) gn r V.k ⟨[],0,ps,pn,G⟩):=by
  refine List.Perm.append_left _ (.cons _ ?_)
  refine List.Perm.trans (.cons _ (List.perm_append_comm_assoc _ _ _)) ?_
  refine List.Perm.trans List.perm_middle.symm (List.Perm.append_left _ List.perm_middle.symm)
 have s6:st2 nums<6:=Nat.mod_lt _ (by decide)
 unfold ls9
 dsimp -zeta only
 refine' J.forR (σ:=Option Value×S9) (a:=0) (b:=40) (c:=1) 40 (fun z=>led9 P V q ln tl ss sn O Gt (gRef G) gn r z.1 z.2) (fun _=>nms9 Gt a b e la pb x tx) (fun i z=>R9 nums (gRef G) (i+1) (visits (T2 nums) (st2 nums) i).1 (visits (T2 nums) (st2 nums) i).2 z.2/\0 ∉ (visits (T2 nums) (st2 nums) i).2/\i<=22/\Nd (led9 P V q ln tl ss sn O Gt (gRef G) gn r z.1 z.2)) (V.k,⟨[],0,ps,pn,G⟩) ?hit (by decide) (by decide) hE ?hx ?hs ⟨rfl,rfl,rfl,rfl,rfl,rfl,rfl,trivial⟩ ⟨⟨?s1,.nil,fun _ hu=>absurd hu List.not_mem_nil,⟨_,hG,?s2,?s3,?s4⟩,rfl⟩,List.not_mem_nil,Nat.zero_le _,Nd.perm pm nd⟩ ?turn (fun z u hR=>absurd hR.2.2.1 (by decide)) fun y hy=>pm.mem_iff.mpr hy
 case hit=>
  refine range1 tb0 ?_ ?_ ?_
  ·exact rfl
  ·exact rfl
  walk_at "s"
  exact rfl
 case hx=>exact rfl
 case hs=>exact fun _=>rfl
 case s1=>
  show StrsAre ps (((List.range 6).map fun k=>(st2 nums+k)%6).map namV)
  rw[List.map_map]
  exact hps
 case s2=>rw[List.length_map,List.length_map,List.length_range]
 case s3=>
  intro u hu
  rw[List.map_map]
  exact(gs_start u hu).1
 case s4=>
  intro u hu
  rw[List.map_map]
  exact(gs_start u hu).2
 case turn=>
  intro i t z u I o hi hR hne hIt C1
  obtain⟨vk,ov,on,ps,pn,G'⟩:=z
  obtain⟨hR,h0,hi22,ndz⟩:=hR
  have ok1:CxOk C1 p loose mean mg mb (fun h=>CodeHd h 213 209) 30 120:=ok.setQ
  have hE1:PassesOwn C1.M C1.A C1.env C1.E:=hE
  (refine Uc.ah2 (visit_at (T2_in nums) s6 hi22 h0) fun hi2 q0q=>Uc.ex3 q0q fun v qu off=>Uc.an5 fun ev hv hvo hqu hko=>?_;clear q0q)
  rw[ev] at hR h0
  have hlen:=offs_len (T2 nums) (st2 nums) i
  rw[ev] at hlen
  have hql:qu.length<=6:=Nat.le_of_succ_le hlen.2
  have hol:off.length<=i:=hlen.1
  dsimp -zeta only at hR h0 ndz hne ⊢
  have hps:=hR.ps
  obtain⟨v₀,ps',rfl⟩:∃v₀ ps',ps=v₀::ps':=by
   cases ps with
   |nil=>nomatch hps
   |cons v₀ ps'=>exact⟨v₀,ps',rfl⟩
  obtain⟨t2,rfl,hps'⟩:∃t2,v₀=.str (namV v) t2/\StrsAre ps' (qu.map namV):=by
   cases hps with
   |cons _ t2 h=>exact⟨t2,rfl,h⟩
  have hpl:=StrsAre.len_eq hps'
  rw[List.length_map] at hpl
  have ndI:=Nd.snoc (o:=o) ndz hne
  have hassoc:∀G:List (Addr×List Value×Nat),(gLed G++((Gt,listOf (gRef G').toArray gn)::r))++[(I,o)]=gLed G++((Gt,listOf (gRef G').toArray gn)::(r++[(I,o)])):=fun G=>List.append_assoc _ _ _
  have hga:=hR.ga
  dsimp only at hga
  show J C1 _ (cls P { V with k:=vk }++((O,listOf ov.toArray on)::(lexLed P.w q ln tl (Value.str (namV v) t2::ps') pn ss sn++((gLed G'++((Gt,listOf (gRef G).toArray gn)::r))++[(I,o)])))) _ _
  replace ndI:Nd (cls P { V with k:=vk }++((O,listOf ov.toArray on)::(lexLed P.w q ln tl (Value.str (namV v) t2::ps') pn ss sn++((gLed G'++((Gt,listOf (gRef G).toArray gn)::r))++[(I,o)])))):=ndI
  rw[List.append_assoc,List.cons_append] at ndI ⊢
  refine' J.asgR ?a1 ?a2 (EvR.mono (EvR.getOld (A:=cls P { V with k:=vk }++[(O,listOf ov.toArray on)]) (r:=gLed G'++((Gt,listOf (gRef G).toArray gn)::(r++[(I,o)]))) ok1 (by decide) (by decide) lok ndI ?g1 (by omega) ?g2) ?g3)
  case a1=>exact rfl
  case a2=>exact rfl
  case g1=>exact .cellV 6 hX rfl rfl rfl rfl
  case g2=>exact rfl
  case g3=>
   intro y n hy
   obtain⟨pn',rfl,rfl⟩:=hy
   have ndJ:Nd (cls P { V with k:=vk }++((O,listOf ov.toArray on)::(lexLed P.w q ln tl ps' pn' ss sn++(gLed G'++((Gt,listOf (gRef G).toArray gn)::(r++[(I,o)])))))):=ndI
   show J C1 _ (cls P { V with k:=vk }++((O,listOf ov.toArray on)::(lexLed P.w q ln tl ps' pn' ss sn++(gLed G'++((Gt,listOf (gRef G).toArray gn)::(r++[(I,o)])))))) _ _
   clear ndI ndz
   have hrn:(N,listOf nv.toArray nn)∈cls P { V with k:=vk }++((O,listOf ov.toArray on)::(lexLed P.w q ln tl ps' pn' ss sn++(gLed G'++((Gt,listOf (gRef G).toArray gn)::(r++[(I,o)]))))):=List.mem_append_right _ (.tail _ (List.mem_append_right _ (List.mem_append_right _ (.tail _ (List.mem_append_left _ hnm)))))
   have tbN:=TbOk.addN (x:=ofString "name") (tb0 (C:=C1) (m:=up (up (fm u (nms9 Gt a b e la pb x tx)) (ofString "visit") (.int (0+(i:Int)*1) t)) (ofString "name") (.str (namV v) t2)) (nw:=cls P { V with k:=vk }++((O,listOf ov.toArray on)::(lexLed P.w q ln tl ps' pn' ss sn++(gLed G'++((Gt,listOf (gRef G).toArray gn)::(r++[(I,o)]))))))) (.loc rfl rfl rfl)
   refine' J.asgRK ?k1 ?k2 (EvR.to (v:=.int (v:Int)) (EvTo.index (NmIs.cellV 2 hN ?k3 ?k4 ?k5 ?k6) hrn hnv ?k7 (EvTo.of tbN ?k8) hv ?k9) fun t3=>⟨_,3,P.L+4,P.o 4,vk,fun _ h=>h,?k10,?k11,ndJ,?k12⟩)
   case k1=>exact rfl
   case k2=>exact rfl
   case k3=>exact rfl
   case k4=>exact rfl
   case k5=>exact rfl
   case k6=>exact rfl
   case k7=>exact rfl
   case k8=>walk_at "s";exact rfl
   case k9=>exact rfl
   case k10=>exact rfl
   case k11=>exact rfl
   case k12=>
    refine J.gen ((ofString "name",.str (namV v) t2)::nms9 Gt a b e la pb x tx) ⟨rfl,rfl,rfl,rfl,rfl,rfl,rfl,rfl,trivial⟩ fun u9=>?_
    have ndK:Nd (led9 P V q ln tl ss sn O Gt (gRef G) gn (r++[(I,o)]) (some (.int (v:Int) t3)) ⟨ov,on,ps',pn',G'⟩):=ndJ
    refine law_s9b (P:={ P with Q:=Turn P.C.h₀ P.C.L (fun z=>led9 P V q ln tl ss sn O Gt (gRef G) gn r z.1 z.2) (fun _=>nms9 Gt a b e la pb x tx) (fun z=>R9 nums (gRef G) (i+1+1) (visits (T2 nums) (st2 nums) (i+1)).1 (visits (T2 nums) (st2 nums) (i+1)).2 z.2/\0 ∉ (visits (T2 nums) (st2 nums) (i+1)).2/\i+1<=22/\Nd (led9 P V q ln tl ss sn O Gt (gRef G) gn r z.1 z.2)) (vk,⟨ov,on,Value.str (namV v) t2::ps',pn,G'⟩) I o P.C.s (P.C.post (rest::ks)) }) (V:=V) (z:=⟨ov,on,ps',pn',G'⟩) (bd:=i+1) (qu:=qu) (off:=off) ok1 hE1 lok hX hA hO (List.mem_append_left _ ham) hav (List.mem_append_left _ hwm) hwv hv hvo hql (by omega) (by omega) ⟨hps',hR.ov,hR.hh,hR.gs,hR.ga⟩ ndK (fun u z hz h0' ndz=>?tn) (fun u z t4 hz hk hw ndz=>?bk)
    case tn=>
     have evs:visits (T2 nums) (st2 nums) (i+1)=visit (T2 nums) (v::qu,off):=congrArg (visit (T2 nums)) ev
     refine J.tn (C:=P.C) (some (.int (v:Int) t3),z) ⟨rfl,rfl,rfl,rfl,rfl,rfl,rfl,trivial⟩ ⟨by rw[evs];exact hz,by rw[evs];exact h0' h0,hi2,?nz⟩ (fun y hy=>.inl ?ad) fun y hy=>?sb
     case nz=>
      have sub:(led9 P V q ln tl ss sn O Gt (gRef G) gn r (some (.int (v:Int) t3)) z).Sublist (led9 P V q ln tl ss sn O Gt (gRef G) gn (r++[(I,o)]) (some (.int (v:Int) t3)) z):=List.Sublist.append_left (.cons₂ _ (List.Sublist.append_left (List.Sublist.append_left (.cons₂ _ (List.sublist_append_left _ _)) _) _)) _
      exact Nd.sub sub ndz
     case ad=>
      have:=List.mem_map_of_mem (f:=fun y:Addr×Obj=>y.1) hy
      rw[led9_ad (P:=P) (P':=P) (V':=V) (vk':=vk) (z':=⟨ov,on,Value.str (namV v) t2::ps',pn,G'⟩) rfl hz.ga hga] at this
      exact this
     case sb=>
      replace hy:y∈cls P { V with k:=some (.int (v:Int) t3) }++((O,listOf z.ov.toArray z.on)::(lexLed P.w q ln tl z.ps z.pn ss sn++((gLed z.G++((Gt,listOf (gRef G).toArray gn)::r))++[(I,o)]))):=hy
      rw[List.append_assoc,List.cons_append] at hy
      exact hy
    case bk=>
     intro h1 tk F N
     show P.C.post (rest::ks) .next (P.C.sg h1 tk)
     have sub:(led9 P { V with to:=some (.int (v:Int) t4) } q ln tl ss sn O Gt (gRef G) gn r (some (.int (v:Int) t3)) z).Sublist (led9 P { V with to:=some (.int (v:Int) t4) } q ln tl ss sn O Gt (gRef G) gn (r++[(I,o)]) (some (.int (v:Int) t3)) z):=List.Sublist.append_left (.cons₂ _ (List.Sublist.append_left (List.Sublist.append_left (.cons₂ _ (List.sublist_append_left _ _)) _) _)) _
     have hT:=told_of hv hvo hk hz.hh hw
     refine J.gen (C:=P.C) (nms9 Gt a b e la pb x tx) (m:=fm u ((ofString "name",.str (namV v) t2)::nms9 Gt a b e la pb x tx)) ⟨rfl,rfl,rfl,rfl,rfl,rfl,rfl,trivial⟩ (fun u9=>h u9 z (some (.int (v:Int) t3)) t4 v off (i+1) ⟨by rw[<-hqu];exact hz.ps,hz.ov,hz.hh,hz.gs,hz.ga⟩ hT (by omega) (Nd.sub sub ndz)) h1 tk F (News.sub N fun y hy=>sub.subset hy)
end
end Uc
end
section
namespace Uc
open PyProof.Rows.LCg PySem.Calls
theorem tok_ws_end:∀(ws:List Nat),(∀c∈ws,isWs c=true)->tokGo (ws++[101,110,100])=([101,110,100],[])
 | [],_=>by decide
 |c::ws,h=>by
  rw[List.cons_append,tok_ws (h c (.head _))]
  exact tok_ws_end ws fun d hd=>h d (.tail _ hd)
theorem ahead2_end {nums:List Nat}{cs:List Nat}(h:Ahead2 nums 6 cs):tokGo cs=([101,110,100],[]):=by
 obtain⟨ws,hw,rfl⟩:=h
 exact tok_ws_end ws hw
theorem all_tt (n:Nat):((List.range n).all fun _=>true)=true:=by simp
section
variable {prog:Program}{w:World}{A:Around}{E:Value->Shared->Prop}{s:Shared}{h₀:Heap}{L:Addr}
theorem ne_strs {a b:Addr}{va vb:List Value}{n k:Nat}{xs:List Str}{news:Led}{Q:Value->Shared->Prop}(N:News h₀ L s.heap news)(ha:(a,listOf va.toArray n)∈news)(hb:(b,listOf vb.toArray k)∈news)(hA:StrsAre va xs)(hB:StrsAre vb xs)(hu:A.units<cLine)(h:Q (.bool false) s):wpAny (model prog w) A (compareOp .NotEq (.ref a) (.ref b)) Q E s:=by
 refine cmp_ofNotEq (PySem.SeqAt.RcNeAt.lists (e:=fun _=>true) ⟨_,(N _ ha).1,rfl,n,rfl⟩ ⟨_,(N _ hb).1,rfl,k,rfl⟩ ?_ hu (fun j h1 h2=>?_) prog w E Q (by rw[all_tt];exact h))
 ·rw[List.size_toArray,List.size_toArray,StrsAre.len_eq hA,StrsAre.len_eq hB]
 ·rw[List.size_toArray] at h1 h2
  have h3:j<xs.length:=by rw[<-StrsAre.len_eq hA];exact h1
  obtain⟨t,e1⟩:=hA.get j _ (List.getElem?_eq_getElem h3)
  obtain⟨u,e2⟩:=hB.get j _ (List.getElem?_eq_getElem h3)
  have e1':va.toArray[j]=.str xs[j] t:=by simpa using (List.getElem?_eq_some_iff.mp e1).2
  have e2':vb.toArray[j]=.str xs[j] u:=by simpa using (List.getElem?_eq_some_iff.mp e2).2
  rw[e1',e2']
  have:=(eqGives_str xs[j] xs[j] t u).at A.in1 s
  rw[beq_self_eq_true] at this
  exact this
theorem ne_intsL {a b:Addr}{va vb:List Value}{n k:Nat}{xs:List Int}{news:Led}{Q:Value->Shared->Prop}(N:News h₀ L s.heap news)(ha:(a,listOf va.toArray n)∈news)(hb:(b,listOf vb.toArray k)∈news)(hA:IntsAre va xs)(hB:IntsAre vb xs)(hu:A.units<cLine)(h:Q (.bool false) s):wpAny (model prog w) A (compareOp .NotEq (.ref a) (.ref b)) Q E s:=by
 refine cmp_ofNotEq (PySem.SeqAt.RcNeAt.lists (e:=fun _=>true) ⟨_,(N _ ha).1,rfl,n,rfl⟩ ⟨_,(N _ hb).1,rfl,k,rfl⟩ ?_ hu (fun j h1 h2=>?_) prog w E Q (by rw[all_tt];exact h))
 ·rw[List.size_toArray,List.size_toArray,intsAre_len hA,intsAre_len hB]
 ·rw[List.size_toArray] at h1 h2
  have e:∀{vs:List Value},IntsAre vs xs->∀(h:j<vs.length),∃m t,vs[j]=.int m t/\xs[j]? =some m:=by
   intro vs hI h
   rcases intsAre_get hI j with ⟨a,_⟩|⟨m,t,a,b⟩
   ·exact absurd h (Nat.not_lt.mpr (List.getElem?_eq_none_iff.mp a))
   ·exact⟨m,t,(List.getElem?_eq_some_iff.mp a).2,b⟩
  obtain⟨m1,t,e1,x1⟩:=e hA h1
  obtain⟨m2,u,e2,x2⟩:=e hB h2
  rw[x1] at x2
  cases x2
  rw[List.getElem_toArray,List.getElem_toArray,e1,e2]
  have:=(PySem.MeetsSeq.EqGives.int m1 m1 t u).at A.in1 s
  rw[beq_self_eq_true] at this
  exact this
end
section
variable {C:Cx}{m:Str->Option Value}{nw:Led}
noncomputable def BTR (C:Cx)(m:Str->Option Value)(nw:Led)(e:Expr)(R:Led->Prop):Prop:=∀K:Bool->Shared->Prop,(∀nw',R nw'->At C m nw' (K false))->At C m nw fun s=>wpAny C.M C.A (isTrue e C.env (eval e C.env)) K C.E s
theorem BTR.of {e:Expr}{P:Prop}{R:Led->Prop}(h:BTo C m nw e P)(hn:¬ P)(hR:R nw):BTR C m nw e R:=fun K q=>h K fun b hb=>by
 cases b with
 |true=>exact absurd (hb.mp rfl) hn
 |false=>exact q nw hR
theorem BTR.or {x y:Expr}{ys:List Expr}{p p':Pos}{R1 R:Led->Prop}(h1:BTR C m nw x R1)(h2:∀nw',R1 nw'->BTR C m nw' (.BoolOp .Or (y::ys) p') R)(hp:p=p'):BTR C m nw (.BoolOp .Or (x::y::ys) p) R:=by
 subst hp
 intro K q h tk F N
 exact isTrue_or (h1 (fun b s=>if b=true then K true s else wpAny C.M C.A (isTrue (.BoolOp .Or (y::ys) p) C.env (eval (.BoolOp .Or (y::ys) p) C.env)) K C.E s) (fun nw' hR h1 tk1 F1 N1=>by
  dsimp only
  rw[if_neg (by decide)]
  exact h2 nw' hR K q h1 tk1 F1 N1) h tk F N)
theorem BTR.one {x:Expr}{p:Pos}{R:Led->Prop}(h:BTR C m nw x R):BTR C m nw (.BoolOp .Or [x] p) R:=by
 intro K q h0 tk F N
 exact isTrue_or (h (fun b s=>if b=true then K true s else wpAny C.M C.A (isTrue (.BoolOp .Or [] p) C.env (eval (.BoolOp .Or [] p) C.env)) K C.E s) (fun nw' hR h1 tk1 F1 N1=>by
  dsimp only
  rw[if_neg (by decide)]
  exact isTrue_or_nil (q nw' hR h1 tk1 F1 N1)) h0 tk F N)
theorem BTR.neS {l r:Expr}{p:Pos}{x:Str}{R:Led->Prop}(hm:behindInMarks .NotEq r=false)(hl:EvR C m nw l fun v n=>(∃t,v=.str x t)/\R n)(hr:∀n,R n->EvTo C m n r (.str x)):BTR C m nw (.Compare l [.NotEq] [r] p) R:=fun K q h0 tk F N=>by
 refine wpAny_isTrue_Compare1 (hl _ (fun v n hv h1 tk1 F1 N1=>?_) h0 tk F N) hm
 obtain⟨⟨t1,rfl⟩,hR⟩:=hv
 refine hr n hR _ (fun t2 h2 tk2 F2 N2=>?_) h1 tk1 F1 N1
 refine cmp_ok (s:=C.sg h2 tk2) (x:=.str x) (y:=.str x) (t:=t1) (u:=t2) (op:=.NotEq) (Q:=fun c s₃=>wpAny C.M C.A (truthy c) K C.E s₃) ?_
 show ∀b,(b=true↔¬ x=x)->_
 intro b hb
 cases b with
 |true=>exact absurd rfl (hb.mp rfl)
 |false=>exact wpAny_truthy_bool (q n hR h2 tk2 F2 N2)
theorem BTR.neL {l r:Expr}{p:Pos}{R:Led->Prop}(hm:behindInMarks .NotEq r=false)(hl:EvR C m nw l fun v n=>∃D vs k xs b vb kb,v=.ref D/\(D,listOf vs.toArray k)∈n/\StrsAre vs xs/\(b,listOf vb.toArray kb)∈n/\StrsAre vb xs/\EvTo C m n r (.val (.ref b))/\R n):BTR C m nw (.Compare l [.NotEq] [r] p) R:=fun K q h0 tk F N=>by
 refine wpAny_isTrue_Compare1 (hl _ (fun v n hv h1 tk1 F1 N1=>?_) h0 tk F N) hm
 (refine Uc.ex7 hv fun D vs k xs b vb kb=>Uc.an7 fun e1q hD hvs hb hvb hr hR=>?_;clear hv;subst e1q)
 refine hr _ (fun t2 h2 tk2 F2 N2=>?_) h1 tk1 F1 N1
 exact ne_strs (s:=C.sg h2 tk2) N2 hD hb hvs hvb C.hu (wpAny_truthy_bool (q n hR h2 tk2 F2 N2))
theorem BTR.neI {l r:Expr}{p:Pos}{R:Led->Prop}(hm:behindInMarks .NotEq r=false)(hl:EvR C m nw l fun v n=>∃D vs k xs,v=.ref D/\(D,listOf vs.toArray k)∈n/\IntsAre vs xs/\EvR C m n r fun v' n'=>∃b vb kb,v'=.ref b/\(b,listOf vb.toArray kb)∈n'/\(D,listOf vs.toArray k)∈n'/\IntsAre vb xs/\R n'):BTR C m nw (.Compare l [.NotEq] [r] p) R:=fun K q h0 tk F N=>by
 refine wpAny_isTrue_Compare1 (hl _ (fun v n hv h1 tk1 F1 N1=>?_) h0 tk F N) hm
 (refine Uc.ex4 hv fun D vs k xs=>Uc.an4 fun e1q hD hvs hr=>?_;clear hv;subst e1q)
 refine hr _ (fun v' n' hv' h2 tk2 F2 N2=>?_) h1 tk1 F1 N1
 (refine Uc.ex3 hv' fun b vb kb=>Uc.an5 fun e1q hb hD' hvb hR=>?_;clear hv';subst e1q)
 exact ne_intsL (s:=C.sg h2 tk2) N2 hD' hb hvs hvb C.hu (wpAny_truthy_bool (q n' hR h2 tk2 F2 N2))
theorem J.ifR {t:Expr}{b o:List Stmt}{pos:Pos}{rest:List Stmt}{ks:List (List Stmt)}{R:Led->Prop}(ht:BTR C m nw t R)(h:∀nw',R nw'->J C m nw' o (rest::ks)):J C m nw (.If t b o pos::rest) ks:=by
 refine J.step fun h0 tk F N=>wpAny_If (ht (fun c s=>if c=true then wpAny C.M C.A (execs b C.env) (C.post (rest::ks)) C.E s else wpAny C.M C.A (execs o C.env) (C.post (rest::ks)) C.E s) (fun nw' hR h1 tk1 F1 N1=>?_) h0 tk F N)
 dsimp only
 rw[if_neg (by decide)]
 exact h nw' hR h1 tk1 F1 N1
theorem EvTo.count {o e:Expr}{p2 p3:Pos}{x y:Str}{pl:Sem Bool}(ho:EvTo C m nw o (.str x))(he:plainArg e=true)(hv:EvTo C m nw e (.str y))
  (hm:eval (.Call (.Attribute o "count" p2) [e] [] p3) C.env=(do
   let ov<-eval o C.env
   standAt p2.atName
   let (f,first)<-holding [ov] (getMethod ov "count" pl)
   callWith p3 f first (backTo p3 (starEach [e] C.env)) [])):EvTo C m nw (.Call (.Attribute o "count" p2) [e] [] p3) (.int (Txt.count x y)):=fun Q q h0 tk F N=>by
 refine MethodCall_ (ho _ (fun t1 h1 tk1 F1 N1=>?_) h0 tk F N) hm
 refine PySem.GM.count ?_
 refine callWith_method1 (args_cons (hv _ (fun t h2 tk2 F2 N2=>args_nil ?_) h1 tk1 F1 N1) (star1 he)) (star1 he)
 exact call_gives PySem.F.slot_str_count rfl PySem.F.entry_str_count (PySem.F.args_str_count_2 _ _) (gives_str_count x y t1 t) (q _ h2 _ F2 N2)
end
end Uc
end
section
namespace Uc
open PySem.StrLaws
theorem occ_count (x:Str)(c n:Nat)(hn:x.length<=n):∀(k i:Nat) (st:Array Nat×Nat),i+k=x.length+1->st.1.size=(x.cps.toList.take i).count c->st.2<=i->
  (forIn (List.range' i k) st (occBody x ⟨#[c]⟩ x.length (n+1))).run.fst.size=x.cps.toList.count c
 |0,i,st,hk,hs,_=>by
  show st.1.size=_
  rw[hs,List.take_of_length_le (by show x.cps.size<=i;have e:x.cps.size=x.length:=rfl;(walk_at "O"))]
 |k+1,i,st,hk,hs,hf=>by
  rw[List.range'_succ,List.forIn_cons]
  unfold occBody
  have hle:st.1.size<=n:=by
   rw[hs]
   have h1:=List.count_le_length (a:=c) (l:=x.cps.toList.take i)
   have h2:(x.cps.toList.take i).length<=x.length:=by rw[List.length_take];exact Nat.min_le_right _ _
   (walk_at "O")
  by_cases h:x.cps.toList[i]? =some c
  ·have h1:=(subAt_one x c i).mpr h
   rw[if_pos ⟨⟨⟨by(walk_at "O"),hf⟩,h1.1⟩,h1.2⟩]
   refine occ_count x c n hn k (i+1) (st.1.push i,i+1) (by(walk_at "O")) ?_ (Nat.le_refl _)
   show(st.1.push i).size=_
   rw[Array.size_push,hs,List.take_add_one,h,List.count_append]
   simp
  ·have h1:¬ (((st.1.size<n+1/\st.2<=i)/\i+(⟨#[c]⟩:Str).length<=x.length)/\Builtin.Str.subAt x ⟨#[c]⟩ i=true):=fun q=>h ((subAt_one x c i).mp ⟨q.1.2,q.2⟩)
   rw[if_neg h1]
   refine occ_count x c n hn k (i+1) (st.1,st.2) (by(walk_at "O")) ?_ (Nat.le_succ_of_le hf)
   show st.1.size=_
   rw[hs,List.take_add_one,List.count_append]
   cases e:x.cps.toList[i]? with
   |none=>simp
   |some d=>
    have hd:d≠c:=fun q=>h (by rw[e,q])
    simp[hd]
theorem txt_count (l:List Nat)(c:Nat):Txt.count ⟨l.toArray⟩ ⟨#[c]⟩=((l.count c:Nat):Int):=by
 unfold Txt.count
 rw[occ_eq]
 have:=occ_count ⟨l.toArray⟩ c (⟨l.toArray⟩:Str).length (Nat.le_refl _) ((⟨l.toArray⟩:Str).length+1-0) 0 (#[],0) (by(walk_at "O")) rfl (Nat.le_refl _)
 rw[Array.length_toList,this]
end Uc
end
section
namespace Uc
open PyProof.Rows.LCg PySem.Calls
theorem behind_map {v:Nat}{off:List Nat}{α:Type}(F:Nat->α):(((List.range 5).filter fun i=> !off.contains ((v+1+i)%6)).map fun i=>F ((v+1+i)%6))=(behind v off).map F:=by
 unfold behind
 rw[List.filter_map,List.map_map]
 rfl
theorem told_mod (v i:Nat):((v:Int)+(1+(i:Int))).fmod 6=(((v+1+i)%6:Nat):Int):=by
 rw[show(v:Int)+(1+(i:Int))=((v+1+i:Nat):Int) by push_cast;omega]
 exact fmod_nat _ 6
theorem mem_off {off:List Nat}{u:Nat}:(¬ (u:Int)∈off.map fun(n:Nat)=>(n:Int))↔(!off.contains u)=true:=by
 simp only[Bool.not_eq_true',List.mem_map,List.contains_eq_mem,decide_eq_false_iff_not]
 refine not_congr ⟨fun⟨n,hn,e⟩=>?_,fun h=>⟨u,h,rfl⟩⟩
 have:n=u:=by omega
 exact this▸hn
section
variable {P:LP}{V:CV}{led r:Led}{m:Str->Option Value}{rest:List Stmt}{ks:List (List Stmt)}{p:Program}{loose:List Str}{mean:ExcName->Option Value}{mg mb:Str->Option Value}
theorem law_s10 {O N:Addr}{ov nv:List Value}{on nn v:Nat}{off:List Nat}{t:Tok}(hT:V.to=some (.int (v:Int) t))(hO:V.off=some (.ref O))(hom:(O,listOf ov.toArray on)∈led)(hov:IntsAre ov (off.map fun(n:Nat)=>(n:Int)))(hN:V.na=some (.ref N))(hnm:(N,listOf nv.toArray nn)∈led)(hnv:StrsAre nv names2)(hol:off.length<=22)
  (nd:Nd (cls P V++led))
  (h:∀D vs,StrsAre vs ((behind v off).map namV)->Nd (cls P V++((D,lst vs)::led))->J P.C (up m (ofString "waiting") (.ref D)) (cls P V++((D,lst vs)::led)) rest ks):
  J P.C m (cls P V++led) (ls10::rest) ks:=by
 unfold ls10
 dsimp -zeta only
 refine' J.compR (a:=1) (b:=6) 5 (fun i=>.str (namV ((v+1+i)%6))) (fun i=> !off.contains ((v+1+i)%6)) ?hit (by decide) (by decide) (by decide) ?sw ?y ?cl ?cell ?kind ?names ?x ?xd ?s ?turn ?q
 case sw=>exact rfl
 case y=>exact rfl
 case cl=>exact rfl
 case cell=>decide
 case kind=>exact rfl
 case names=>decide
 case x=>exact rfl
 case xd=>exact rfl
 case s=>exact fun _=>rfl
 case hit=>
  refine range2 tb0 ?_ ?_ ?_ ?_ ?_
  ·exact rfl
  ·exact rfl
  ·exact rfl
  ·walk_at "s"
   exact rfl
  ·walk_at "s"
   exact rfl
 case turn=>
  intro i t2 Cc E' nw' hi hs C2 hnm2
  have tb2:=TbOk.addQ (x:=ofString "off") (TbOk.addQ (x:=ofString "names") (TbOk.addN (x:=ofString "told") (TbOk.addN (tb0 (C:=C2) (m:=m) (nw:=nw')) hnm2) (.cellU 9 hT hs rfl rfl rfl rfl)) (.cellU 2 hN hs rfl rfl rfl rfl) (sv:=.tt names2) ⟨nv,nn,hs _ (List.mem_append_right _ hnm),hnv⟩) (.cellU 8 hO hs rfl rfl rfl rfl) (sv:=.nn (off.map fun(n:Nat)=>(n:Int))) ⟨ov,on,hs _ (List.mem_append_right _ hom),hov⟩
  have h6:(v+1+i)%6<6:=Nat.mod_lt _ (by decide)
  refine⟨¬ (((v+1+i)%6:Nat):Int)∈off.map (fun(n:Nat)=>(n:Int)),BTo.of tb2 ?b1,mem_off,fun _=>EvTo.of tb2 ?b2⟩
  case b1=>
   refine' Uc.Bs.holds_c ?jp ?jc ?_
   case jp=>exact rfl
   case jc=>decide
   rw[told_mod]
  case b2=>
   refine' Uc.Rs.holds_c ?jp ?jc ?_
   case jp=>exact rfl
   case jc=>
    rw[told_mod,show names2.length=6 from rfl]
    omega
   rw[told_mod,Int.toNat_natCast,names2_at h6]
   rfl
 case q=>
  intro D vs hv hD
  have hvI:StrsAre vs ((behind v off).map namV):=by
   have:=hv
   rw[behind_map (fun u=>PV.str (namV u)),show(behind v off).map (fun u=>PV.str (namV u))=((behind v off).map namV).map PV.str from List.map_map.symm] at this
   exact this.strs
  have nd2:Nd (cls P V++((D,lst vs)::led)):=Nd.front (A:=[(D,lst vs)]) (B:=cls P V) (Nd.cons hD nd)
  exact J.sub (fun z hz=>mem_front (A:=cls P V) (B:=[(D,lst vs)]) hz) (h D vs hvI nd2)
end
end Uc
end
section
namespace Uc
open PyProof.Rows.LCg PySem.Calls
section
variable {C:Cx}{p:Program}{loose:List Str}{mean:ExcName->Option Value}{mg mb:Str->Option Value}{d u:Nat}{m:Str->Option Value}{B A r n0:Led}{q:Lex}{tl:Tok}{ps ss:List Value}{pn sn:Nat}{x:Str}{p1 p2 p3:Pos}{pl:Sem Bool}
theorem EvR.getOldC {ln:Int}{v₀:Value}(ok:CxOk C p loose mean mg mb (fun h=>CodeHd h 213 209) d u)(hd:20<=d)(hu:80<=u)(lok:LexOk q n0)(hB:∀y∈B,∀z∈A++(lexLed C.w q ln tl (v₀::ps) pn ss sn++r),z.1≠y.1)(nd:Nd (A++(lexLed C.w q ln tl (v₀::ps) pn ss sn++r)))(hx:NmIs C m (B++(A++(lexLed C.w q ln tl (v₀::ps) pn ss sn++r))) x (.ref q.X))(hlen:ps.length<=1000)
  (hm:eval (.Call (.Attribute (.Name x p1) (ofString "get_token") p2) [] [] p3) C.env=(do
   let ov<-eval (.Name x p1) C.env
   standAt p2.atName
   let (f,first)<-holding [ov] (getMethod ov (ofString "get_token") pl)
   callWith p3 f first (backTo p3 (starEach [] C.env)) [])):
  EvR C m (B++(A++(lexLed C.w q ln tl (v₀::ps) pn ss sn++r))) (.Call (.Attribute (.Name x p1) (ofString "get_token") p2) [] [] p3) fun v n=>∃pn',v=v₀/\n=B++(A++(lexLed C.w q ln tl ps pn' ss sn++r)):=fun Q k h0 tk F N=>by
 refine MethodCall_ (hx.ev _ _ (fun h1 tk1 F1 N1=>?_) h0 tk F N) hm
 have N2:News C.h₀ C.L h1 (lexLed C.w q ln tl (v₀::ps) pn ss sn++((B++A)++r)):=News.sub N1 fun _ h=>by
  have:=mem_back h
  rw[List.append_assoc] at this
  exact this
 have l1:=lok.nd nd
 have lex:LexOk q ((B++A)++r):=by
  have sp:∀{a:Addr} {o:Obj},(a,o)∈lexLed C.w q ln tl (v₀::ps) pn ss sn->∀y∈B,y.1≠a:=fun hm y hy=>Ne.symm (hB y hy _ (List.mem_append_right _ (List.mem_append_left _ hm)))
  refine { lok with n1:=fun y hy=>?_,n2:=fun y hy=>?_,n3:=fun y hy=>?_ }
  ·rw[List.append_assoc] at hy
   rcases List.mem_append.mp hy with hy|hy
   ·exact sp (.tail _ (.head _)) y hy
   ·exact l1.n1 y hy
  ·rw[List.append_assoc] at hy
   rcases List.mem_append.mp hy with hy|hy
   ·exact sp (.tail _ (.tail _ (.head _))) y hy
   ·exact l1.n2 y hy
  ·rw[List.append_assoc] at hy
   rcases List.mem_append.mp hy with hy|hy
   ·exact sp (.tail _ (.tail _ (.tail _ (.tail _ (.tail _ (.tail _ (.tail _ (.tail _ (.head _))))))))) y hy
   ·exact l1.n3 y hy
 rw[cx_M ok]
 refine meth_get ok.X ok.T (s:=C.sg h1 tk1) F1 N2 ?_
 rw[<-cx_M ok]
 refine callWith_K0 (ok.X.keeps F1.keep) rfl ?_
 refine ok.go (get_pushed C.w p loose mean mg mb ((B++A)++r) q ln tl v₀ ps pn ss sn hlen lex) F1 N2 (fun v n hR=>?_) (fun _ h=>h) (Nat.le_trans (by decide) hd) (Nat.le_trans (by decide) hu)
 obtain⟨pn',rfl,rfl⟩:=hR
 intro h3 tk3 F3 N3
 refine k _ _ ⟨pn',rfl,rfl⟩ h3 tk3 F3 (News.sub N3 fun _ h=>?_)
 rw[<-List.append_assoc] at h
 exact mem_fwd h
theorem attrL {ln:Int}{pre:Heap->Prop}(ok:CxOk C p loose mean mg mb pre d u)(h1:(q.X,instObj 125 q.D)∈A)(h2:(q.D,lexDq C.w q ln tl)∈A):AttrOk C A q.X (ofString "lineno") (.int ln tl):=fun m nw' hs' Q k h tk F N=>by
 rw[cx_M ok]
 refine attr_line (ln:=ln) (tl:=tl) (led:=[]) ok.X ok.T (s:=C.sg h tk) F (News.sub N fun z hz=>?_) ?_
 ·rcases List.mem_cons.mp hz with rfl|hz
  ·exact hs' _ h1
  ·rw[List.mem_singleton.mp hz];exact hs' _ h2
 exact k h _ F N
end
theorem lex_ad {P:LP}{V V':CV}{w w':World}{A1 r:Led}{q:Lex}{ln ln':Int}{tl tl':Tok}{ps ps' ss ss':List Value}{pn pn' sn sn':Nat}:(cls P V++(A1++(lexLed w q ln tl ps pn ss sn++r))).map (·.1)=(cls P V'++(A1++(lexLed w' q ln' tl' ps' pn' ss' sn'++r))).map (·.1):=by
 rw[List.map_append,List.map_append,List.map_append,List.map_append (l₁:=cls P V'),List.map_append (l₁:=A1),List.map_append (l₂:=r)]
 rfl
theorem Nd.ad {nw nw':Led}(e:nw.map (·.1)=nw'.map (·.1))(nd:Nd nw):Nd nw':=by
 unfold Nd at nd ⊢
 rw[<-e]
 exact nd
theorem Nd.ad1 {nw nw':Led}{a:Addr}{o o':Obj}(e:nw.map (·.1)=nw'.map (·.1))(nd:Nd ((a,o)::nw)):Nd ((a,o')::nw'):=Nd.ad (nw:=(a,o)::nw) (congrArg (a::·) e) nd
section
variable {P:LP}{V:CV}{A1 r:Led}{m:Str->Option Value}{rest:List Stmt}{ks:List (List Stmt)}{p:Program}{loose:List Str}{mean:ExcName->Option Value}{mg mb:Str->Option Value}
theorem law_s11 {q:Lex}{n0:Led}{D:Addr}{vs ps ss:List Value}{kD pn sn v:Nat}{xs:List Str}{nums cs:List Nat}{T:Int}{t tl:Tok}(ok:CxOk P.C p loose mean mg mb (fun h=>CodeHd h 213 209) 30 120)(lok:LexOk q n0)(hX:V.lx=some (.ref q.X))(hT:V.to=some (.int (v:Int) t))
  (hw:m (ofString "waiting")=some (.ref D)) (hwm:(D,listOf vs.toArray kD)∈A1) (hvs:StrsAre vs xs) (hps:StrsAre ps xs) (hxl:xs.length<=100)
  (hah:Ahead2 nums 6 cs) (hss:StrsAre ss (chrs cs)) (hcl:cs.length<=200) (hct:(cs.count 10:Int)<=T/\T<=1000)
  (nd:Nd (cls P V++(A1++(lexLed P.w q (T-cs.count 10) tl ps pn ss sn++r))))
  (h:∀tl pn ss sn,StrsAre ss (chrs [])->Nd (cls P V++(A1++(lexLed P.w q (T-([]:List Nat).count 10) tl [] pn ss sn++r)))->J P.C m (cls P V++(A1++(lexLed P.w q (T-([]:List Nat).count 10) tl [] pn ss sn++r))) rest ks):
  J P.C m (cls P V++(A1++(lexLed P.w q (T-cs.count 10) tl ps pn ss sn++r))) (ls11::rest) ks:=by
 have tbT:=TbOk.addN (x:=ofString "told") (tb0 (C:=P.C) (m:=m) (nw:=cls P V++(A1++(lexLed P.w q (T-cs.count 10) tl ps pn ss sn++r)))) (.cellV 9 hT rfl rfl rfl rfl)
 have hvl:=StrsAre.len_eq hvs
 unfold ls11
 dsimp -zeta only
 refine' J.ifR (R:=fun n=>∃D2 ys tl pn ss sn,n=(D2,lst ys)::(cls P V++(A1++(lexLed P.w q (T-([]:List Nat).count 10) tl [] pn ss sn++r)))/\StrsAre ss (chrs [])/\Nd n) (BTR.or (R1:=fun n=>n=cls P V++(A1++(lexLed P.w q (T-cs.count 10) tl ps pn ss sn++r))) (BTR.of (BTo.of tbT ?t1) ?t2 rfl) (fun n hn=>BTR.or (R1:=fun n=>∃D2 ys pn,n=(D2,lst ys)::(cls P V++(A1++(lexLed P.w q (T-cs.count 10) tl [] pn ss sn++r)))/\Nd n) ?t3 (fun n hn=>BTR.one ?t4) rfl) rfl) ?fin
 case t1=>
  walk_at "b"
  exact Iff.rfl
 case t2=>omega
 case t3=>
  subst hn
  have hx1:∀n,(∃pn,n=cls P V++(A1++(lexLed P.w q (T-cs.count 10) tl (ps.drop 0) pn ss sn++r)))->True:=fun _ _=>trivial
  refine' BTR.neL ?n1 (EvR.mono (EvR.compG (ax:=D) (its:=vs) (k:=kD) (fun i ys n=>∃ps' pn',n=cls P V++(A1++(lexLed P.w q (T-cs.count 10) tl ps' pn' ss sn++r))/\StrsAre ps' (xs.drop i)/\StrsAre ys (xs.take i)/\Nd n) (List.mem_append_right _ (List.mem_append_left _ hwm)) (by omega) (EvTo.of tb0 ?hit) ?cl ?cell ?kind ?names ?x ?xd ?s ⟨ps,pn,rfl,hps,.nil,nd⟩ ?turn) ?fn)
  case n1=>exact rfl
  case hit=>
   show Rs.holds _ (rName (m (ofString "waiting")))
   rw[hw]
   exact rfl
  case cl=>exact rfl
  case cell=>decide
  case kind=>exact rfl
  case names=>decide
  case x=>exact rfl
  case xd=>exact rfl
  case s=>exact fun _=>rfl
  case turn=>
   intro i v ys nw' A Cc E' hv hR hmW hA hnm
   (refine Uc.ex2 hR fun ps' pn'=>Uc.an4 fun e1q hps' hys ndn=>?_;clear hR;subst e1q)
   have hi:i<xs.length:=by
    rw[<-hvl]
    exact(List.getElem?_eq_some_iff.mp hv).1
   rw[List.drop_eq_getElem_cons hi] at hps'
   obtain⟨t2,ps2,rfl,hps2⟩:∃t2 ps2,ps'=.str xs[i] t2::ps2/\StrsAre ps2 (xs.drop (i+1)):=by
    cases hps' with
    |cons _ t2 h=>exact⟨t2,_,rfl,h⟩
   have hp2:=StrsAre.len_eq hps2
   rw[List.length_drop] at hp2
   have hsub:∀z∈cls P V++(A1++(lexLed P.w q (T-cs.count 10) tl (.str xs[i] t2::ps2) pn' ss sn++r)),z∈A++(cls P V++(A1++(lexLed P.w q (T-cs.count 10) tl (.str xs[i] t2::ps2) pn' ss sn++r))):=fun z hz=>List.mem_append_right _ hz
   refine' EvR.mono (EvR.getOldC (B:=A) (A:=cls P V++A1) ok.inn (by decide) (by decide) lok hA ndn ?g1 (by omega) ?g2) ?g3
   case g1=>exact .cellU (nw:=cls P V++(A1++(lexLed P.w q (T-cs.count 10) tl (.str xs[i] t2::ps2) pn' ss sn++r))) 6 hX hsub rfl rfl rfl rfl
   case g2=>exact rfl
   case g3=>
    intro y n hy
    obtain⟨pn2,rfl,rfl⟩:=hy
    refine⟨cls P V++(A1++(lexLed P.w q (T-cs.count 10) tl ps2 pn2 ss sn++r)),fun z hz=>hz,?_,?_,ps2,pn2,rfl,hps2,?_,Nd.ad lex_ad ndn⟩
    ·intro p hp z hz
     have hz1:=List.mem_map_of_mem (f:=fun y:Addr×Obj=>y.1) hz
     rw[lex_ad (V':=V) (w':=P.w) (ln':=T-cs.count 10) (tl':=tl) (ps':=.str xs[i] t2::ps2) (pn':=pn') (ss':=ss) (sn':=sn)] at hz1
     obtain⟨z',hz',ez⟩:=List.mem_map.mp hz1
     rw[<-ez]
     exact hA p hp z' hz'
    ·exact List.mem_append_right _ (List.mem_append_left _ hwm)
    ·rw[List.take_add_one,List.getElem?_eq_getElem hi]
     exact StrsAre.append' hys (.cons _ _ .nil)
  case fn=>
   intro v n hv
   (refine Uc.ex3 hv fun D2 ys nw'=>Uc.an4 fun e1q w1q e2q hne=>?_;clear hv;subst e1q;subst e2q);(refine Uc.ex2 w1q fun ps' pn'=>Uc.an4 fun e1q hps' hys ndn=>?_;clear w1q;subst e1q)
   rw[hvl,List.take_of_length_le (Nat.le_refl _)] at hys
   rw[hvl,List.drop_of_length_le (Nat.le_refl _)] at hps'
   cases hps'
   refine⟨D2,ys,_,xs,D,vs,kD,rfl,.head _,hys,.tail _ (List.mem_append_right _ (List.mem_append_left _ hwm)),hvs,EvTo.of tb0 ?_,D2,ys,pn',rfl,Nd.cons hne ndn⟩
   show Rs.holds _ (rName (m (ofString "waiting")))
   rw[hw]
   exact rfl
 case t4=>
  (refine Uc.ex3 hn fun D2 ys pn'=>Uc.an2 fun e1q ndn=>?_;clear hn;subst e1q)
  refine' BTR.neS ?n1 (EvR.mono (EvR.getNew (A:=(D2,lst ys)::(cls P V++A1)) (r:=r) (cs:=cs) (T:=T) ok (by decide) (by decide) lok ndn ?g1 hss (by omega) ⟨hct.1,by omega⟩ ?g2) ?g3) (fun n hn=>EvTo.of tb0 ?g4)
  case n1=>exact rfl
  case g1=>exact .cellU (nw:=cls P V++(A1++(lexLed P.w q (T-cs.count 10) tl [] pn' ss sn++r))) 6 hX (fun z hz=>.tail _ hz) rfl rfl rfl rfl
  case g2=>exact rfl
  case g3=>
   intro y n hy
   (refine Uc.ex5 hy fun tl' pk' ss' sn' ty=>Uc.an3 fun e1q e2q hss'=>?_;clear hy;subst e1q;subst e2q)
   rw[ahead2_end hah] at hss' ⊢
   exact⟨⟨ty,rfl⟩,D2,ys,tl',pk',ss',sn',rfl,hss',(Nd.ad1 lex_ad ndn:Nd ((D2,lst ys)::(cls P V++(A1++(lexLed P.w q (T-([]:List Nat).count 10) tl' [] pk' ss' sn'++r)))))⟩
  case g4=>
   walk_at "s"
   exact rfl
 case fin=>
  intro n hn
  (refine Uc.ex6 hn fun D2 ys tl' pn' ss' sn'=>Uc.an3 fun e1q hss' ndn=>?_;clear hn;subst e1q)
  exact J.nil (J.sub (fun z hz=>.tail _ hz) (h tl' pn' ss' sn' hss' (Nd.tail ndn)))
theorem law_s12 {q:Lex}{n0:Led}{ss:List Value}{pn sn:Nat}{x:List Nat}{T:Int}{tl tx:Tok}(ok:CxOk P.C p loose mean mg mb (fun h=>CodeHd h 213 209) 30 120)(lok:LexOk q n0)(hX:V.lx=some (.ref q.X))(hx:m (ofString "text")=some (.str (mkL x) tx))(hxl:x.length<=1000)
  (hss:StrsAre ss (chrs [])) (hT:T=1+(x.count 10:Nat))
  (nd:Nd (cls P V++(A1++(lexLed P.w q (T-([]:List Nat).count 10) tl [] pn ss sn++r))))
  (h:∀tl pn ss sn,Nd (cls P V++(A1++(lexLed P.w q T tl [] pn ss sn++r)))->J P.C m (cls P V++(A1++(lexLed P.w q T tl [] pn ss sn++r))) rest ks):
  J P.C m (cls P V++(A1++(lexLed P.w q (T-([]:List Nat).count 10) tl [] pn ss sn++r))) (ls12::rest) ks:=by
 have hcx:x.count 10<=1000:=Nat.le_trans List.count_le_length hxl
 unfold ls12
 dsimp -zeta only
 refine' J.ifR (R:=fun n=>∃tl pn ss sn,n=cls P V++(A1++(lexLed P.w q T tl [] pn ss sn++r))/\Nd n) (BTR.or (R1:=fun n=>∃tl pn ss sn,n=cls P V++(A1++(lexLed P.w q T tl [] pn ss sn++r))/\Nd n) ?t1 (fun n hn=>BTR.one ?t2) rfl) ?fin
 case t1=>
  refine' BTR.neS ?n1 (EvR.mono (EvR.getNew (A:=cls P V++A1) (r:=r) (cs:=[]) (T:=T) ok (by decide) (by decide) lok nd ?g1 hss (by decide) ⟨?g5,by omega⟩ ?g2) ?g3) (fun n hn=>EvTo.of tb0 ?g4)
  case n1=>exact rfl
  case g1=>exact .cellV 6 hX rfl rfl rfl rfl
  case g2=>exact rfl
  case g5=>show((0:Nat):Int)<=T;omega
  case g3=>
   intro y n hy
   (refine Uc.ex5 hy fun tl' pk' ss' sn' ty=>Uc.an3 fun e1q e2q hss'=>?_;clear hy;subst e1q;subst e2q)
   have e0:T-(((tokGo []).2.count 10:Nat):Int)=T:=by show T-((0:Nat):Int)=T;omega
   rw[e0]
   exact⟨⟨ty,rfl⟩,tl',pk',ss',sn',rfl,(Nd.ad lex_ad nd:Nd (cls P V++(A1++(lexLed P.w q T tl' [] pk' ss' sn'++r))))⟩
  case g4=>
   walk_at "s"
   exact rfl
 case t2=>
  (refine Uc.ex4 hn fun tl' pk' ss' sn'=>Uc.an2 fun e1q ndn=>?_;clear hn;subst e1q)
  have tbL:=TbOk.addA (x:=ofString "lexer") (tb0 (C:=P.C) (m:=m) (nw:=cls P V++(A1++(lexLed P.w q T tl' [] pk' ss' sn'++r)))) (.cellV 6 hX rfl rfl rfl rfl) (attrL (q:=q) (ln:=T) (tl:=tl') ok (List.mem_append_right _ (List.mem_append_right _ (.head _))) (List.mem_append_right _ (List.mem_append_right _ (.tail _ (.head _)))))
  refine' BTR.of (BTo.cmp (P:=¬ T=1+Txt.count (mkL x) (ofString "\n")) ?c1 (EvTo.of tbL ?c2) (EvTo.bin (a:=.int 1) (b:=.int (Txt.count (mkL x) (ofString "\n"))) (v:=.int (1+Txt.count (mkL x) (ofString "\n"))) (EvTo.of tb0 ?c3) (EvTo.count (EvTo.of tb0 ?c4) ?c5 (EvTo.of tb0 ?c6) ?c7) ?c8) ?c9) ?c10 ⟨tl',pk',ss',sn',rfl,ndn⟩
  case c1=>exact rfl
  case c2=>walk_at "s";exact rfl
  case c3=>walk_at "s";exact rfl
  case c4=>
   show Rs.holds _ (rName (m (ofString "text")))
   rw[hx]
   exact rfl
  case c5=>exact rfl
  case c6=>walk_at "s";exact rfl
  case c7=>exact rfl
  case c8=>exact rfl
  case c9=>exact Iff.rfl
  case c10=>
   have ec:Txt.count (mkL x) (ofString "\n")=((x.count 10:Nat):Int):=txt_count x 10
   rw[ec]
   omega
 case fin=>
  intro n hn
  (refine Uc.ex4 hn fun tl' pn' ss' sn'=>Uc.an2 fun e1q ndn=>?_;clear hn;subst e1q)
  exact J.nil (h tl' pn' ss' sn' ndn)
end
end Uc
end
section
namespace Uc
open PyProof.Rows.LCg PySem.Calls
theorem ups_step {T:List Nat}(hT:T∈treesN 5){k:Nat}(hk:k<6)(h0:k≠0):ups T k=k::ups T (T.getD k 0)/\T.getD k 0<k:=by
 have h:=List.all_eq_true.mp (List.all_eq_true.mp ups_all T hT) k (List.mem_range.mpr hk)
 simp only[Bool.and_eq_true,decide_eq_true_eq,beq_iff_eq] at h
 obtain⟨⟨⟨h1,h2⟩,_⟩,_⟩:=h
 rw[if_neg h0] at h1
 exact⟨h1,h2.resolve_left h0⟩
theorem ups_zero (T:List Nat):ups T 0=[0]:=rfl
theorem last_at {α:Type}(l:List α)(x d:α):(l++[x]).getLastD d=x:=by simp
section
variable {P:LP}{V:CV}{led:Led}{m:Str->Option Value}{rest:List Stmt}{ks:List (List Stmt)}
theorem law_s13 {v:Nat}{t:Tok}(hT:V.to=some (.int (v:Int) t))(nd:Nd (cls P V++led))
  (h:∀Y t2,Nd (cls P V++((Y,listOf [Value.int (v:Int) t2].toArray 0)::led))->J P.C (up m (ofString "way") (.ref Y)) (cls P V++((Y,listOf [Value.int (v:Int) t2].toArray 0)::led)) rest ks):
  J P.C m (cls P V++led) (ls13::rest) ks:=by
 have tbT:=TbOk.addN (x:=ofString "told") (tb0 (C:=P.C) (m:=m) (nw:=cls P V++led)) (.cellV 9 hT rfl rfl rfl rfl)
 unfold ls13
 dsimp -zeta only
 refine' J.asgR ?a1 ?a2 (EvR.list (SpL.cons ?a3 (EvR.to (v:=.int (v:Int)) (EvTo.of tbT ?a4) fun t2=>SpL.nil ⟨by show 1<=10000;decide,fun D hD=>?_⟩)))
 case a1=>exact rfl
 case a2=>exact rfl
 case a3=>exact rfl
 case a4=>walk_at "s";exact rfl
 have nd2:Nd (cls P V++((D,listOf [Value.int (v:Int) t2].toArray 0)::led)):=Nd.front (A:=[(D,_)]) (B:=cls P V) (Nd.cons hD nd)
 exact J.sub (fun z hz=>mem_front (A:=cls P V) (B:=[(D,_)]) hz) (h D t2 nd2)
theorem law_s14 {Y c:Addr}{av:List Value}{an v:Nat}{t2:Tok}{nums:List Nat}{l:Nms}{u:Str->Option Value}(hE:PassesOwn P.C.M P.C.A P.C.env P.C.E)(hNM:∀u,Has (fm u ((ofString "way",.ref Y)::l)) ((ofString "way",.ref Y)::l))(hv:v<6)(hA:V.ab=some (.ref c))(ham:(c,listOf av.toArray an)∈led)(hav:IntsAre av ((List.range 6).map (overZ (L2 nums))))(nd:Nd (cls P V++((Y,listOf [Value.int (v:Int) t2].toArray 0)::led)))
  (h:∀u yv yn,IntsAre yv ((ups (T2 nums) v).map fun(n:Nat)=>(n:Int))->Nd (cls P V++((Y,listOf yv.toArray yn)::led))->J P.C (fm u ((ofString "way",.ref Y)::l)) (cls P V++((Y,listOf yv.toArray yn)::led)) rest ks):
  J P.C (fm u ((ofString "way",.ref Y)::l)) (cls P V++((Y,listOf [Value.int (v:Int) t2].toArray 0)::led)) (ls14::rest) ks:=by
 unfold ls14
 dsimp -zeta only
 refine J.whileX (C:=P.C) (σ:=List Nat×Nat×List Value×Nat) (fun z=>cls P V++((Y,listOf z.2.2.1.toArray z.2.2.2)::led)) (fun _=>(ofString "way",.ref Y)::l)
  (fun z=>IntsAre z.2.2.1 ((z.1++[z.2.1]).map fun(n:Nat)=>(n:Int))/\z.1++ups (T2 nums) z.2.1=ups (T2 nums) v/\z.2.1<6/\z.1.length+z.2.1<=6) (fun z=>z.2.1) ([],v,[Value.int (v:Int) t2],0) hE (hNM u) ⟨.cons _ _ .nil,rfl,hv,by show 0+v<=6;omega⟩ ?turn fun _ h=>h
 intro z u3 hz
 obtain⟨pre,x,yv,yn⟩:=z
 obtain⟨hI,hup,hx,hpl⟩:=hz
 dsimp -zeta only at hI hup hx hpl ⊢
 have hyl:=intsAre_len hI
 rw[List.length_map,List.length_append] at hyl
 have hyl1:yv.length=pre.length+1:=hyl
 have ndT:Nd (cls P V++((Y,listOf yv.toArray yn)::led)):=nd
 have tbW:=TbOk.addQ (x:=ofString "above") (TbOk.addQ (x:=ofString "way") (tb0 (C:=P.C) (m:=fm u3 ((ofString "way",.ref Y)::l)) (nw:=cls P V++((Y,listOf yv.toArray yn)::led))) (.loc rfl rfl rfl) (sv:=.nn ((pre++[x]).map fun(n:Nat)=>(n:Int))) ⟨yv,yn,List.mem_append_right _ (.head _),hI⟩) (.cellV 7 hA rfl rfl rfl rfl) (sv:=.nn ((List.range 6).map (overZ (L2 nums)))) ⟨av,an,List.mem_append_right _ (.tail _ ham),hav⟩
 have tbA:=TbOk.addN (x:=ofString "way") tbW (.loc rfl rfl rfl)
 have elast:((pre++[x]).map fun(n:Nat)=>(n:Int)).getLastD 0=(x:Int):=by
  rw[List.map_append]
  exact last_at _ _ _
 refine⟨x≠0,BTo.of tbW ?test,?go,?exit⟩
 case test=>
  refine' Uc.Bs.holds_c ?jp ?jc ?_
  case jp=>exact rfl
  case jc=>
   rw[elast,List.length_map,List.length_map,List.length_range,List.length_append]
   show(1<=pre.length+1/\pre.length+1<=1000000)/\_
   omega
  rw[elast,at_nat hx]
  refine⟨fun h h0=>?_,fun h=>?_⟩
  ·subst h0
   exact absurd (show(0:Int)<= -1 from h) (by decide)
  ·rw[(over_of nums h hx).1]
   omega
 case go=>
  intro hx0 C3
  obtain⟨e1,e2⟩:=ups_step (T2_in nums) hx hx0
  obtain⟨eo,ho⟩:=over_of nums hx0 hx
  (refine' Uc.J.appK (v:=.int (((T2 nums).getD x 0:Nat):Int)) 13 (TbOk.setQ tbA) (ndT) ?yak ?yax ?yae ?yal ?yai ?yas ?yam ?yab ?yah;(case yak=>exact rfl);(case yax=>exact rfl);(case yae=>exact rfl);(case yai=>exact rfl);(case yas=>exact rfl);(case yam=>exact rfl))
  case yal=>omega
  case yab=>
   refine EvTo.of (TbOk.setQ tbW) ?_
   refine' Uc.Rs.holds_c ?jp ?jc ?_
   case jp=>exact rfl
   case jc=>
    rw[elast,List.length_map,List.length_map,List.length_range,List.length_append]
    show(1<=pre.length+1/\pre.length+1<=1000000)/\_
    omega
   rw[elast,at_nat hx,eo]
  case yah=>
   intro t7
   refine J.turn (pre++[x],(T2 nums).getD x 0,yv++[Value.int (((T2 nums).getD x 0:Nat):Int) t7],yn+1) (hNM u3) ⟨?_,?_,ho,?_⟩ e2 fun _ h=>h
   ·rw[List.map_append]
    exact hI.append (.cons _ _ .nil)
   ·show(pre++[x])++ups (T2 nums) ((T2 nums).getD x 0)=_
    rw[<-hup,e1,List.append_assoc]
    rfl
   ·show(pre++[x]).length+(T2 nums).getD x 0<=6
    rw[List.length_append]
    show pre.length+1+_<=6
    omega
 case exit=>
  intro hx0
  have hx0:x=0:=Decidable.not_not.mp hx0
  subst hx0
  exact h u3 yv yn (by rw[<-hup,ups_zero];exact hI) ndT
end
end Uc
end
section
namespace Uc
open PyProof.Rows.LCg PySem.Calls
noncomputable def Coh (n:Led):Prop:=∀p∈n,∀q∈n,p.1=q.1->p=q
theorem News.coh {h₀ h:Heap}{L:Addr}{n:Led}(N:News h₀ L h n):Coh n:=fun p hp q hq e=>by
 have h1:=(N p hp).1
 rw[e,(N q hq).1] at h1
 exact Prod.ext e (Option.some.inj h1).symm
theorem EvR.coh {C:Cx}{m:Str->Option Value}{nw:Led}{e:Expr}{R:Value->Led->Prop}(h:EvR C m nw e R):EvR C m nw e fun v n=>R v n/\Coh n:=fun Q q=>h Q fun v n r h1 tk F N=>q v n ⟨r,News.coh N⟩ h1 tk F N
theorem dedup (A:List Addr):∀l:Led,Coh l->∃X:Led,(X.map (·.1)).Nodup/\∀p,p∈X↔(p∈l/\¬ p.1∈A):=by
 intro l
 induction l with
 |nil=>exact fun _=>⟨[],List.nodup_nil,fun p=>⟨fun h=>absurd h List.not_mem_nil,fun h=>absurd h.1 List.not_mem_nil⟩⟩
 |cons x l ih=>
  intro hc
  obtain⟨X,hX,hm⟩:=ih fun p hp q hq=>hc p (.tail _ hp) q (.tail _ hq)
  by_cases h1:x.1∈A
  ·refine⟨X,hX,fun p=>(hm p).trans ⟨fun h=>⟨.tail _ h.1,h.2⟩,fun h=>?_⟩⟩
   rcases List.mem_cons.mp h.1 with rfl|h2
   ·exact absurd h1 h.2
   ·exact⟨h2,h.2⟩
  ·by_cases h2:x.1∈X.map (·.1)
   ·obtain⟨y,hy,e⟩:=List.mem_map.mp h2
    have exy:y=x:=hc y (.tail _ ((hm y).mp hy).1) x (.head _) e
    refine⟨X,hX,fun p=>(hm p).trans ⟨fun h=>⟨.tail _ h.1,h.2⟩,fun h=>?_⟩⟩
    rcases List.mem_cons.mp h.1 with rfl|h3
    ·exact exy▸(hm y).mp hy
    ·exact⟨h3,h.2⟩
   ·refine⟨x::X,List.nodup_cons.mpr ⟨h2,hX⟩,fun p=>⟨fun h=>?_,fun h=>?_⟩⟩
    ·rcases List.mem_cons.mp h with rfl|h3
     ·exact⟨.head _,h1⟩
     ·exact⟨.tail _ ((hm p).mp h3).1,((hm p).mp h3).2⟩
    ·rcases List.mem_cons.mp h.1 with rfl|h3
     ·exact .head _
     ·exact .tail _ ((hm p).mpr ⟨h3,h.2⟩)
theorem cls_cell {P:LP}{V:CV}:∀e∈cls P V,∃v,e.2.data=.cell v:=by
 intro e he
 repeat(rcases List.mem_cons.mp he with h|he;exact⟨_,by rw[h]⟩)
 cases he
theorem tidy {P:LP}{V:CV}{led n:Led}(nd:Nd (cls P V++led))(hs:∀p∈cls P V++led,p∈n)(hc:Coh n):∃X,Nd (cls P V++X)/\(∀p∈X,p∈n)/\(∀p∈led,p∈X)/\∀p∈n,(∀v,p.2.data≠.cell v)->p∈X:=by
 obtain⟨X,hX,hm⟩:=dedup ((cls P V).map (·.1)) n hc
 have hn:(cls P V++led).map (·.1)=(cls P V).map (·.1)++led.map (·.1):=List.map_append
 have nd':((cls P V).map (·.1)++led.map (·.1)).Nodup:=hn▸nd
 have nd'':=List.nodup_append.mp nd'
 refine⟨X,?_,fun p hp=>((hm p).mp hp).1,fun p hp=>(hm p).mpr ⟨hs p (List.mem_append_right _ hp),fun hk=>nd''.2.2 _ hk _ (List.mem_map_of_mem hp) rfl⟩,fun p hp hd=>(hm p).mpr ⟨hp,fun hk=>?_⟩⟩
 ·show((cls P V++X).map (·.1)).Nodup
  rw[List.map_append]
  refine List.nodup_append.mpr ⟨nd''.1,hX,fun a ha b hb e=>?_⟩
  obtain⟨y,hy,rfl⟩:=List.mem_map.mp hb
  exact((hm y).mp hy).2 (e▸ha)
 ·obtain⟨y,hy,e⟩:=List.mem_map.mp hk
  have:=hc y (hs y (List.mem_append_left _ hy)) p hp e
  obtain⟨v,hv⟩:=cls_cell y hy
  exact hd v (this▸hv)
theorem RowsAre.upL {nw nw':Led}(h:∀a vs n,(a,listOf vs n)∈nw->(a,listOf vs n)∈nw'){vs:List Value}{nss:List (List Int)}(r:RowsAre nw vs nss):RowsAre nw' vs nss:=by
 induction r with
 |nil=>exact .nil
 |cons hm hI _ ih=>exact .cons (h _ _ _ hm) hI ih
theorem SvOk.upL {nw nw':Led}{a:Addr}(h:∀a vs n,(a,listOf vs n)∈nw->(a,listOf vs n)∈nw'):∀{sv:SV},SvOk nw a sv->SvOk nw' a sv
 | .nn _,⟨vs,n,hm,hI⟩=>⟨vs,n,h _ _ _ hm,hI⟩
 | .tt _,⟨vs,n,hm,hI⟩=>⟨vs,n,h _ _ _ hm,hI⟩
 | .rr _,⟨n,hm⟩=>⟨n,h _ _ _ hm⟩
 | .mm _,⟨vs,n,hm,hR⟩=>⟨vs,n,h _ _ _ hm,RowsAre.upL h hR⟩
noncomputable abbrev nmsF (Y a b la pb:Addr):Nms:=[(ofString "way",.ref Y),(ofString "rows",.ref a),(ofString "weights",.ref b),(ofString "leads",.ref la),(ofString "prices",.ref pb)]
section
variable {P:LP}{V:CV}{led:Led}{rest:List Stmt}{ks:List (List Stmt)}{p:Program}{loose:List Str}{mean:ExcName->Option Value}{mg mb:Str->Option Value}
theorem law_s15 {Y a b la pb:Addr}{lv pv:List Value}{ln pn:Nat}{nums:List Nat}{u:Str->Option Value}(ok:CxOk P.C p loose mean mg mb (fun h=>CodeHd h 213 209) 30 120)(hlm:(la,listOf lv.toArray ln)∈led)(hlv:StrsAre lv ((leads2 nums).map mkL))(hpm:(pb,listOf pv.toArray pn)∈led)(hpv:IntsAre pv ((List.range 6).map (w2 nums)))(nd:Nd (cls P V++led))
  (h:∀C O H X,SvOk X C (.mm (pgCols (leads2 nums)))->SvOk X O (.nn ((List.range 6).map (overZ (L2 nums))))->SvOk X H (.nn ((List.range 6).map (heavyT (T2 nums) (w2 nums))))->(∀p∈led,p∈X)->Nd (cls P { V with co:=some (.ref C),ov:=some (.ref O),he:=some (.ref H) }++X)->J P.C (fm u (nmsF Y a b la pb)) (cls P { V with co:=some (.ref C),ov:=some (.ref O),he:=some (.ref H) }++X) rest ks):
  J P.C (fm u (nmsF Y a b la pb)) (cls P V++led) (ls15::rest) ks:=by
 have eh:((List.range 6).map (carry (T2 nums) (fun k=>((List.range 6).map (w2 nums)).getD k 0) 5))=(List.range 6).map (heavyT (T2 nums) (w2 nums)):=by
  have e1:∀k∈List.range 6,((List.range 6).map (w2 nums)).getD k 0=w2 nums k:=fun k hk=>by
   rw[List.getD_eq_getElem?_getD,List.getElem?_map,List.getElem?_range (List.mem_range.mp hk)]
   rfl
  refine List.map_congr_left fun k hk=>?_
  rw[page_heavy (T2_in nums) _ (List.mem_range.mp hk)]
  unfold heavyT
  exact sum_congr fun j hj=>congrArg (onWay (T2 nums) k j*·) (e1 j hj)
 unfold ls15
 dsimp -zeta only
 refine' J.tup ?s1 ?s2 ?s3 ?s4 (EvR.mono (EvR.coh (EvR.call (ad:=238) (R:=fun v n'=>∃t C O H k,v=.ref t/\(t,({ cls:=.type "tuple",data:=.seq [Value.ref C,.ref O,.ref H].toArray k }:Obj))∈n'/\SvOk n' C (.mm (pgCols (leads2 nums)))/\SvOk n' O (.nn ((List.range 6).map (overZ (L2 nums))))/\SvOk n' H (.nn ((List.range 6).map (heavyT (T2 nums) (w2 nums))))/\∀p∈cls P V++led,p∈n') ok ?c1 ?c2 ?c3 (fun _=>rfl) ?c4 ?c5 ?c6)) ?c7)
 case s1=>exact rfl
 case s2=>exact rfl
 case s3=>exact rfl
 case s4=>exact rfl
 case c1=>exact rfl
 case c2=>exact rfl
 case c3=>exact rfl
 case c4=>exact rfl
 case c5=>exact rfl
 case c6=>
  (refine' Uc.SpL.pure ?_ (tb0) ?_;exact rfl;walk_at "s")
  intro t1
  (refine' Uc.SpL.pure ?_ (tb0) ?_;exact rfl;walk_at "s")
  intro t2
  refine SpL.nil ⟨16,60,fun _=>True,_,page_c P.w p loose mean mg mb (cls P V++led) la pb lv pv ln pn (leads2 nums) ((List.range 6).map (w2 nums)) (List.mem_append_right _ hlm) (List.mem_append_right _ hpm) nd hlv hpv rfl ?_ rfl (first_less nums),fun _ _=>trivial,by decide,by decide,fun v n hR=>?_⟩
  ·intro x hx
   obtain⟨k,_,rfl⟩:=List.mem_map.mp hx
   exact(lead2_ok nums k).1
  ·(refine Uc.ex5 hR fun t C O H k=>Uc.an6 fun hv ht hC hO hH hs=>?_;clear hR)
   exact⟨t,C,O,H,k,hv,ht,hC,hO,eh▸hH,hs⟩
 case c7=>
  intro v n hv
  (refine Uc.ah2 hv fun w2q hcoh=>?_;clear hv);(refine Uc.ex5 w2q fun t C O H k=>Uc.an6 fun e1q ht hC hO hH hs=>?_;clear w2q;subst e1q)
  (refine Uc.ex1 (tidy nd hs hcoh) fun X=>Uc.an4 fun ndX hXn hlX hXo=>?_)
  have hl:∀a vs n',(a,listOf vs n')∈n->(a,listOf vs n')∈X:=fun a vs n' hm=>hXo _ hm fun v e=>by cases e
  refine⟨t,[Value.ref C,.ref O,.ref H],k,cls P V++X,rfl,ht,rfl,fun z hz=>?_,?_⟩
  ·rcases List.mem_append.mp hz with hz|hz
   ·exact hs z (List.mem_append_left _ hz)
   ·exact hXn z hz
  refine' StsE.cel (c:=P.L+11) (o:=P.o 11) (v₀:=V.co) 10 ?_ ?_ ?_ ndX (StsE.cel (c:=P.L+12) (o:=P.o 12) (v₀:=V.ov) 11 ?_ ?_ ?_ ndX (StsE.cel (c:=P.L+13) (o:=P.o 13) (v₀:=V.he) 12 ?_ ?_ ?_ ndX ⟨rfl,h C O H X (hC.upL hl) (hO.upL hl) (hH.upL hl) hlX ndX⟩))
  ·exact rfl
  ·exact rfl
  ·exact rfl
  ·exact rfl
  ·exact rfl
  ·exact rfl
  ·exact rfl
  ·exact rfl
  ·exact rfl
end
end Uc
end
section
namespace Uc
open PyProof.Rows.LCg PySem.Calls
noncomputable def lq0:Stmt:=by
 refine(fun(_:(forBody ls16)[0]? =some (.Assign ?a ?b ?c))=>.Assign ?a ?b ?c) ?h
 exact rfl
noncomputable def lq1:Stmt:=by
 refine(fun(_:(forBody ls16)[1]? =some (.If ?a ?b ?c ?d))=>.If ?a ?b ?c ?d) ?h
 exact rfl
noncomputable def lq2:Stmt:=by
 refine(fun(_:(forBody ls16)[2]? =some (.Assign ?a ?b ?c))=>.Assign ?a ?b ?c) ?h
 exact rfl
noncomputable def lq3:Stmt:=by
 refine(fun(_:(forBody ls16)[3]? =some (.For ?a ?b ?c ?d ?e))=>.For ?a ?b ?c ?d ?e) ?h
 exact rfl
noncomputable def lq4:Stmt:=by
 refine(fun(_:(forBody ls16)[4]? =some (.If ?a ?b ?c ?d))=>.If ?a ?b ?c ?d) ?h
 exact rfl
noncomputable abbrev col2 (nums:List Nat)(i k:Nat):Int:=((colGo (i+1) (lead2 nums k) 0:Nat):Int)
structure Pg (P:LP) (V:CV) (X:Led) (nums:List Nat) (v:Nat) (C O H c Y a b:Addr) (qs:List WsA):Prop where
 co:V.co=some (.ref C)
 ov:V.ov=some (.ref O)
 he:V.he=some (.ref H)
 ab:V.ab=some (.ref c)
 to:∃t,V.to=some (.int (v:Int) t)
 C:SvOk X C (.mm (pgCols (leads2 nums)))
 O:SvOk X O (.nn ((List.range 6).map (overZ (L2 nums))))
 H:SvOk X H (.nn ((List.range 6).map (heavyT (T2 nums) (w2 nums))))
 A:SvOk X c (.nn ((List.range 6).map (overZ (L2 nums))))
 Y:SvOk X Y (.nn ((ups (T2 nums) v).map fun(n:Nat)=>(n:Int)))
 b:SvOk X b (.nn ((List.range 6).map (w2 nums)))
 rows:∃rn,(a,listOf (rowRefs qs).toArray rn)∈X
 ws:∀p∈wsAll P.w (sm2 nums) qs,p∈X
 wo:WsOks (sm2 nums) qs
 ql:qs.length=6
section
variable {P:LP}{V:CV}{X:Led}{m:Str->Option Value}{rest:List Stmt}{ks:List (List Stmt)}{p:Program}{loose:List Str}{mean:ExcName->Option Value}{mg mb:Str->Option Value}
theorem law_t0 {nums:List Nat}{i v:Nat}{C O H c Y a b:Addr}{qs:List WsA}{t:Tok}(ok:CxOk P.C p loose mean mg mb (fun h=>CodeHd h 213 209) 30 120)(pg:Pg P V X nums v C O H c Y a b qs)(hi:i<5)(hpl:V.pl=some (.int (i:Int) t))(hr:m (ofString "rows")=some (.ref a))(nd:Nd (cls P V++X))
  (h:∀D vs,IntsAre vs ((List.range 6).map (col2 nums i))->Nd (cls P V++((D,lst vs)::X))->J P.C (up m (ofString "levels") (.ref D)) (cls P V++((D,lst vs)::X)) rest ks):
  J P.C m (cls P V++X) (lq0::rest) ks:=by
 obtain⟨rn,hrm⟩:=pg.rows
 have hql:=pg.ql
 have hrl:(rowRefs qs).length=6:=by rw[List.length_map,List.length_map,List.length_reverse,hql]
 unfold lq0
 dsimp -zeta only
 refine' J.compL (ax:=a) (its:=rowRefs qs) (k:=rn) (fun j=>.int (col2 nums i j)) (fun _=>true) (List.mem_append_right _ hrm) (by omega) ?hit ?sw ?y ?cl ?cell ?kind ?names ?x ?xd ?s ?turn ?q
 case hit=>
  refine EvTo.of tb0 ?_
  show Rs.holds _ (rName (m (ofString "rows")))
  rw[hr]
  exact rfl
 case sw=>exact rfl
 case y=>exact rfl
 case cl=>exact rfl
 case cell=>decide
 case kind=>exact rfl
 case names=>decide
 case x=>exact rfl
 case xd=>exact rfl
 case s=>exact fun _=>rfl
 case turn=>
  intro j y Cc E' nw' hy hs C2 hnm2
  obtain⟨q,hq,rfl⟩:∃q,qs.reverse[j]? =some q/\y=.ref q.a:=by
   have hy2:((qs.reverse.map (·.a)).map Value.ref)[j]? =some y:=hy
   rw[List.map_map,List.getElem?_map] at hy2
   cases e:qs.reverse[j]? with
   |none=>rw[e] at hy2;cases hy2
   |some q=>rw[e] at hy2;cases hy2;exact⟨q,rfl,rfl⟩
  have hj:j<6:=by
   have:=(List.getElem?_eq_some_iff.mp hq).1
   rw[List.length_reverse] at this
   omega
  have tb2:=TbOk.addN (x:=ofString "place") (tb0 (C:=C2) (m:=m) (nw:=nw')) (.cellU 5 hpl hs rfl rfl rfl rfl)
  have tb3:=TbOk.addN tb2 hnm2
  have ew:wsOf (sm2 nums j)=wsL (lead2 nums j):=small_ws nums hj
  have ec:colOf (wsOf (sm2 nums j)) (i+1)=col2 nums i j:=by
   rw[ew]
   exact indent_is (lead2_ok nums j).1 (lead2_ok nums j).2 hi
  refine⟨rfl,?_⟩
  show EvTo C2 m nw' _ (.int (col2 nums i j))
  rw[<-ec]
  refine' EvTo.indent (sz:=i+1) ok.inn (by decide) (by decide) (EvTo.of tb3 ?o1) ?o2 (EvTo.of tb2 ?o3) (fun z hz=>hs z (List.mem_append_right _ (pg.ws z (wsAll_mem hq z hz)))) (wsOks_at pg.wo hq) ?o4 ?o5 (by omega) (by omega) ?o6
  case o1=>walk_at "s";exact rfl
  case o2=>exact rfl
  case o3=>
   walk_at "s"
   exact congrArg PV.int (by push_cast;rfl)
  case o4=>rw[ew];exact Nat.le_trans (wsL_ok nums j).2.2 (by decide)
  case o5=>
   show(mkL (small2 nums j)).length<=1000
   rw[show(mkL (small2 nums j)).length=(small2 nums j).length from len_mk _]
   unfold small2 nam2
   rw[List.length_append]
   have:=(lead2_ok nums j).1
   have:=(page_ok hj).1
   omega
  case o6=>exact rfl
 case q=>
  intro D vs hv hD
  rw[hrl] at hv
  have nd2:Nd (cls P V++((D,lst vs)::X)):=Nd.front (A:=[(D,lst vs)]) (B:=cls P V) (Nd.cons hD nd)
  refine J.sub (fun z hz=>mem_front (A:=cls P V) (B:=[(D,lst vs)]) hz) (h D vs ?_ nd2)
  have e:((List.range 6).filter fun _=>true).map (fun j=>PV.int (col2 nums i j))=((List.range 6).map (col2 nums i)).map PV.int:=by
   rw[List.filter_eq_self.mpr fun _ _=>rfl,List.map_map]
   rfl
  rw[e] at hv
  exact hv.ints
theorem law_t1 {nums:List Nat}{i v:Nat}{C O H c Y a b D:Addr}{qs:List WsA}{t:Tok}{lv:List Value}{ln:Nat}(pg:Pg P V X nums v C O H c Y a b qs)(hi:i<5)(hpl:V.pl=some (.int (i:Int) t))(hl:m (ofString "levels")=some (.ref D))(hlm:(D,listOf lv.toArray ln)∈X)(hlv:IntsAre lv ((List.range 6).map (col2 nums i)))
  (h:J P.C m (cls P V++X) rest ks):J P.C m (cls P V++X) (lq1::rest) ks:=by
 obtain⟨cv,cn,hcm,hcr⟩:=pg.C
 have h6:(pgCols (leads2 nums)).length=6:=by unfold pgCols leads2;rw[List.length_map,List.length_map,List.length_range]
 have hcl:cv.length=6:=hcr.len.trans h6
 have e0:∀j<6,((pgCols (leads2 nums)).getD j []).getD i 0=col2 nums i j:=by
  intro j hj
  rw[pgCols_at _ (by unfold leads2;rw[List.length_map,List.length_range];exact hj),leads2_at nums hj]
  unfold pgRow
  rw[List.getD_eq_getElem?_getD,List.getElem?_map,List.getElem?_range hi]
  rfl
 unfold lq1
 dsimp -zeta only
 refine' J.ifR (R:=fun n=>∀z∈cls P V++X,z∈n) (BTR.neI ?n1 (EvR.to (v:=.val (.ref D)) (EvTo.of tb0 ?n2) fun t2=>⟨D,lv,ln,(List.range 6).map (col2 nums i),rfl,List.mem_append_right _ hlm,hlv,?n3⟩)) fun n hn=>J.nil (J.sub hn h)
 case n1=>exact rfl
 case n2=>
  show Rs.holds _ (rName (m (ofString "levels")))
  rw[hl]
  exact rfl
 case n3=>
  intro Q q'
  (refine' Uc.compL (ax:=C) (its:=cv) (k:=cn) (fun j=>.int (col2 nums i j)) (fun _=>true) ?ahm ?ahz ?ahit ?acl ?acell ?akind ?anames ?ax ?axd ?as ?aturn ?aq;(case acl=>exact rfl);(case acell=>decide);(case akind=>exact rfl);(case anames=>decide);(case ax=>exact rfl);(case axd=>exact rfl);(case as=>exact fun _=>rfl))
  case ahm=>exact List.mem_append_right _ hcm
  case ahz=>omega
  case ahit=>
   refine EvTo.of (TbOk.addN (x:=ofString "columns") tb0 (.cellV 10 pg.co rfl rfl rfl rfl)) ?_
   walk_at "s"
   exact rfl
  case aturn=>
   intro j y Cc E' nw' hy hs C2 hnm2
   have hj:j<6:=by
    have:=(List.getElem?_eq_some_iff.mp hy).1
    omega
   (refine Uc.ex3 (hcr.get (k:=j) (by omega)) fun ra rv rn=>Uc.an3 fun hya hrm hrI=>?_)
   rw[hy] at hya
   cases hya
   have tb2:=TbOk.addQ (TbOk.addN (x:=ofString "place") (tb0 (C:=C2) (m:=m) (nw:=nw')) (.cellU 5 hpl hs rfl rfl rfl rfl)) hnm2 (sv:=.nn ((pgCols (leads2 nums)).getD j [])) ⟨rv,rn,hs _ (List.mem_append_right _ hrm),hrI⟩
   have hrl:((pgCols (leads2 nums)).getD j []).length=5:=by
    rw[pgCols_at _ (by unfold leads2;rw[List.length_map,List.length_range];exact hj)]
    unfold pgRow
    rw[List.length_map,List.length_range]
   refine⟨rfl,EvTo.of tb2 ?e1⟩
   refine' Uc.Rs.holds_c ?jp ?jc ?_
   case jp=>exact rfl
   case jc=>omega
   rw[Int.toNat_natCast,e0 j hj]
  case aq=>
   intro D2 vs hv hD
   rw[hcl] at hv
   have e:((List.range 6).filter fun _=>true).map (fun j=>PV.int (col2 nums i j))=((List.range 6).map (col2 nums i)).map PV.int:=by
    rw[List.filter_eq_self.mpr fun _ _=>rfl,List.map_map]
    rfl
   rw[e] at hv
   exact q' _ _ ⟨D2,vs,_,rfl,.head _,.tail _ (List.mem_append_right _ hlm),hv.ints,fun z hz=>.tail _ hz⟩
end
end Uc
end
section
namespace Uc
open PyProof.Rows.LCg PySem.Calls
theorem mem_cast {l:List Nat}{x:Nat}:((x:Int)∈l.map fun(n:Nat)=>(n:Int))↔x∈l:=by
 rw[List.mem_map]
 refine⟨fun⟨n,hn,e⟩=>?_,fun h=>⟨x,h,rfl⟩⟩
 have:n=x:=by omega
 exact this▸hn
set_option tactic.hygienic true in
theorem root_on {T:List Nat}(hT:T∈treesN 5){t:Nat}(ht:t<6):0∈ups T t:=by
 have:=eq_of_beq (List.all_eq_true.mp (List.all_eq_true.mp way_root_all T hT) t (List.mem_range.mpr ht))
 unfold onWay at this
 split at this
 ·rename_i h;exact List.contains_iff_mem.mp h
 ·cases this
noncomputable abbrev term2 (nums:List Nat)(i v k:Nat):Int:=w2 nums k*(col2 nums i k+col2 nums i v-2*col2 nums i (meet (T2 nums) v k))
noncomputable abbrev nmsC (D Y a b la pb:Addr)(z:Int×Tok):Nms:=(ofString "cost",.int z.1 z.2)::(ofString "levels",.ref D)::nmsF Y a b la pb
section
variable {P:LP}{V:CV}{X:Led}{rest:List Stmt}{ks:List (List Stmt)}{p:Program}{loose:List Str}{mean:ExcName->Option Value}{mg mb:Str->Option Value}
theorem law_t2 {m:Str->Option Value}{nw:Led}(h:∀t,J P.C (up m (ofString "cost") (.int 0 t)) nw rest ks):J P.C m nw (lq2::rest) ks:=by
 unfold lq2
 dsimp -zeta only
 refine' J.asgR ?a1 ?a2 (EvR.to (v:=.int 0) (EvTo.of tb0 ?a3) fun t2=>h t2)
 case a1=>exact rfl
 case a2=>exact rfl
 case a3=>walk_at "s";exact rfl
theorem law_t3 {nums:List Nat}{i v:Nat}{C O H c Y a b D la pb:Addr}{qs:List WsA}{lv:List Value}{ln:Nat}{t0:Tok}{u:Str->Option Value}(hE:PassesOwn P.C.M P.C.A P.C.env P.C.E)(pg:Pg P V X nums v C O H c Y a b qs)(hv:v<6)(hlm:(D,listOf lv.toArray ln)∈X)(hlv:IntsAre lv ((List.range 6).map (col2 nums i)))(nd:Nd (cls P V++X))
  (h:∀u t vk,J P.C (fm u (nmsC D Y a b la pb (((List.range 6).map (term2 nums i v)).sum,t))) (cls P { V with k:=vk }++X) rest ks):
  J P.C (fm u (nmsC D Y a b la pb (0,t0))) (cls P V++X) (lq3::rest) ks:=by
 unfold lq3
 dsimp -zeta only
 refine' J.forC (σ:=Int×Tok) (a:=0) (b:=6) (c:=1) (ck:=P.L+4) (o:=P.o 4) (v₀:=V.k) 6 3 (fun i=>(i:Int)) (fun v z=>cls P { V with k:=v }++X) (fun z=>nmsC D Y a b la pb z) (fun k z=>z.1=((List.range k).map (term2 nums i v)).sum) (0,t0) ?hit (fun i=>by omega) (by decide) (by decide) hE ?hx ?hc (fun _ _=>rfl) (fun _ _ _=>rfl) ?hs ⟨rfl,rfl,rfl,rfl,rfl,rfl,rfl,trivial⟩ rfl nd ?turn (fun z u vk hz _=>?done) fun _ h=>h
 case hit=>
  refine range1 tb0 ?_ ?_ ?_
  ·exact rfl
  ·exact rfl
  walk_at "s"
  exact rfl
 case hx=>exact rfl
 case hc=>exact rfl
 case hs=>exact fun _=>rfl
 case done=>
  obtain⟨zc,zt⟩:=z
  cases hz
  exact h u zt vk
 case turn=>
  intro k t z u I oI hk hz ndT C1
  obtain⟨zc,zt⟩:=z
  dsimp -zeta only at hz ndT ⊢
  have hE1:PassesOwn C1.M C1.A C1.env C1.E:=hE
  have hX:∀y∈X,y∈cls P { V with k:=some (.int (k:Int) t) }++X++[(I,oI)]:=fun y hy=>List.mem_append_left _ (List.mem_append_right _ hy)
  obtain⟨tt,hto⟩:=pg.to
  have tbK:=TbOk.addN (x:=ofString "k") (tb0 (C:=C1) (m:=fm u (nmsC D Y a b la pb (zc,zt))) (nw:=cls P { V with k:=some (.int (k:Int) t) }++X++[(I,oI)])) (.cellV 3 rfl rfl rfl rfl rfl)
  refine' J.asgR ?a1 ?a2 (EvR.to (v:=.int (k:Int)) (EvTo.of tbK ?a3) fun t2=>?_)
  case a1=>exact rfl
  case a2=>exact rfl
  case a3=>walk_at "s";exact rfl
  show J C1 (up (fm u (nmsC D Y a b la pb (zc,zt))) (ofString "meet") (.int (k:Int) t2)) _ _ _
  have hup:=root_on (T2_in nums) hv
  refine J.whileX (C:=C1) (σ:=Nat×Tok) (fun _=>cls P { V with k:=some (.int (k:Int) t) }++X++[(I,oI)]) (fun y=>(ofString "meet",.int (y.1:Int) y.2)::nmsC D Y a b la pb (zc,zt))
   (fun y=>y.1<6/\∃n,y.1<n/\meetN (T2 nums) (ups (T2 nums) v) n y.1=meet (T2 nums) v k) (fun y=>y.1) (k,t2) hE1 ⟨rfl,rfl,rfl,rfl,rfl,rfl,rfl,rfl,trivial⟩ ⟨hk,6,hk,rfl⟩ ?turn2 fun _ h=>h
  case turn2=>
   intro y u3 hy
   obtain⟨x,t3⟩:=y
   obtain⟨hx,n,hn,hm⟩:=hy
   dsimp -zeta only at hx hn hm ⊢
   have tbM:=TbOk.addQ (x:=ofString "above") (TbOk.addQ (x:=ofString "way") (tb0 (C:=C1) (m:=fm u3 ((ofString "meet",.int (x:Int) t3)::nmsC D Y a b la pb (zc,zt))) (nw:=cls P { V with k:=some (.int (k:Int) t) }++X++[(I,oI)])) (.loc rfl rfl rfl) (pg.Y.up hX)) (.cellV 7 pg.ab rfl rfl rfl rfl) (pg.A.up hX)
   refine⟨¬ x∈ups (T2 nums) v,BTo.of tbM ?test,?go,?exit⟩
   case test=>
    walk_at "b"
    exact not_congr mem_cast
   case go=>
    intro hno C3
    have hx0:x≠0:=fun e=>hno (e▸hup)
    obtain⟨eo,ho⟩:=over_of nums hx0 hx
    obtain⟨_,e2⟩:=ups_step (T2_in nums) hx hx0
    refine' J.asgR ?b1 ?b2 (EvR.to (v:=.int (((T2 nums).getD x 0:Nat):Int)) (EvTo.of (TbOk.setQ tbM) ?b3) fun t4=>?_)
    case b1=>exact rfl
    case b2=>exact rfl
    case b3=>
     refine' Uc.Rs.holds_c ?jp ?jc ?_
     case jp=>exact rfl
     case jc=>
      rw[List.length_map,List.length_range]
      omega
     rw[at_nat hx,eo]
    refine J.turn (C:=C1) ((T2 nums).getD x 0,t4) ⟨rfl,rfl,rfl,rfl,rfl,rfl,rfl,rfl,trivial⟩ ⟨ho,?_⟩ e2 fun _ h=>h
    cases n with
    |zero=>omega
    |succ n=>
     refine⟨n,by show(T2 nums).getD x 0<n;omega,?_⟩
     rw[<-hm]
     show _=if (ups (T2 nums) v).contains x then x else meetN (T2 nums) (ups (T2 nums) v) n ((T2 nums).getD x 0)
     rw[if_neg (fun h=>hno (List.contains_iff_mem.mp h))]
   case exit=>
    intro hin
    have hin:x∈ups (T2 nums) v:=Decidable.not_not.mp hin
    have ex:x=meet (T2 nums) v k:=by
     cases n with
     |zero=>omega
     |succ n=>
      rw[<-hm]
      show _=if (ups (T2 nums) v).contains x then x else _
      rw[if_pos (List.contains_iff_mem.mpr hin)]
    have tbS:=TbOk.addN (x:=ofString "told") (TbOk.addN (x:=ofString "k") (TbOk.addQ (x:=ofString "levels") (TbOk.addQ (x:=ofString "weights") (tb0 (C:=C1) (m:=fm u3 ((ofString "meet",.int (x:Int) t3)::nmsC D Y a b la pb (zc,zt))) (nw:=cls P { V with k:=some (.int (k:Int) t) }++X++[(I,oI)])) (.loc rfl rfl rfl) (pg.b.up hX)) (.loc rfl rfl rfl) (sv:=.nn ((List.range 6).map (col2 nums i))) ⟨lv,ln,hX _ hlm,hlv⟩) (.cellV 3 rfl rfl rfl rfl rfl)) (.cellV 9 hto rfl rfl rfl rfl)
    refine' J.asgR ?b1 ?b2 (EvR.to (v:=.int (zc+term2 nums i v k)) (EvTo.of tbS ?b3) fun t4=>?_)
    case b1=>exact rfl
    case b2=>exact rfl
    case b3=>
     refine' Uc.Rs.holds_c ?jp ?jc ?_
     case jp=>exact rfl
     case jc=>
      rw[List.length_map,List.length_range,List.length_map,List.length_range]
      rw[at_nat hk]
      have:=(typ2_len nums hk).2
      omega
     rw[at_nat hk,at_nat hk,at_nat hv,at_nat hx,ex]
    refine J.tnC (zc+term2 nums i v k,t4) (some (.int (k:Int) t)) ⟨rfl,rfl,rfl,rfl,rfl,rfl,rfl,trivial⟩ ?_ ndT fun _ h=>h
    show zc+_=_
    rw[hz,List.range_succ,List.map_append,List.sum_append]
    simp
end
end Uc
end
section
namespace Uc
open PyProof.Rows.LCg PySem.Calls
theorem col_all:(leadsN 4).all (fun l=>(List.range 5).all fun p=>decide (colGo (p+1) l 0<=100))=true:=by decide+kernel
theorem col2_le (nums:List Nat){i:Nat}(hi:i<5)(k:Nat):0<=col2 nums i k/\col2 nums i k<=100:=by
 have:=of_decide_eq_true (List.all_eq_true.mp (List.all_eq_true.mp col_all (lead2 nums k) (leads_mem 4 _ (lead2_ok nums k).1 (lead2_ok nums k).2)) i (List.mem_range.mpr hi))
 show 0<=((colGo (i+1) (lead2 nums k) 0:Nat):Int)/\((colGo (i+1) (lead2 nums k) 0:Nat):Int)<=100
 omega
noncomputable abbrev edge2 (nums:List Nat)(i j:Nat):Int:=(col2 nums i (1+j)-col2 nums i ((T2 nums).getD (1+j) 0))*min (heavyT (T2 nums) (w2 nums) (1+j)) (heavyT (T2 nums) (w2 nums) 0-heavyT (T2 nums) (w2 nums) (1+j))
theorem cost2 (nums:List Nat){i v:Nat}(hv:v<6){off:List Nat}(ht:Told (T2 nums) (w2 nums) v off):((List.range 6).map (term2 nums i v)).sum=((List.range 5).map (edge2 nums i)).sum:=by
 have hT:=T2_in nums
 rw[show((List.range 6).map (term2 nums i v)).sum=_ from cost_is hT (col2 nums i) rfl (w2 nums) hv]
 refine sum_congr fun j hj=>?_
 have hj:=List.mem_range.mp hj
 rw[min_is hT (fun k=>Int.natCast_nonneg _) hv (by omega) ht.half ht.kid]
 show _=(col2 nums i (1+j)-col2 nums i ((T2 nums).getD (1+j) 0))*min (heavyT (T2 nums) (w2 nums) (1+j)) (heavyT (T2 nums) (w2 nums) 0-heavyT (T2 nums) (w2 nums) (1+j))
 rw[heavy_root hT,Nat.add_comm 1 j]
 rfl
theorem EvTo.sumR {C:Cx}{m:Str->Option Value}{nw:Led}{tb:Tb}{elt:Expr}{gens:List Comprehension}{scope:Scope}{p1 p2 p3:Pos}{z:Int}(ht:TbOk C m nw tb)(hsum:pNm C.env m tb (ofString "sum")=some (.builtin "sum"))
  (h:EvR C m nw (.ListComp elt gens scope p2) fun v n=>∃D vs k ns,v=.ref D/\(D,listOf vs.toArray k)∈n/\IntsAre vs ns/\ns.sum=z/\∀p∈nw,p∈n):EvTo C m nw (.Call (.Name (ofString "sum") p1) [.ListComp elt gens scope p2] [] p3) (.int z):=fun Q q h0 tk F N=>by
 refine Call_ (nm_ok ht hsum _ _ (fun h0 tk0 F0 N0=>?_) h0 tk F N)
 refine PyProof.Rows.callWith_builtin1 (args_cons ?_ rfl) rfl rfl
 refine h _ (fun v n hv h1 tk1 F1 N1=>?_) h0 tk0 F0 N0
 (refine Uc.ex4 hv fun D vs k ns=>Uc.an5 fun e1q hm hI e2q hs=>?_;clear hv;subst e1q;subst e2q)
 exact args_nil (PyProof.Rows.LSm.sum_ints (s:=C.sg h1 tk1) (vs:=vs) F1 N1 C.hh (News.isList N1 hm) hI fun h4 tk4 t4 F4 N4=>q t4 h4 tk4 F4 (News.sub N4 hs))
section
variable {P:LP}{V:CV}{X:Led}{rest:List Stmt}{ks:List (List Stmt)}{p:Program}{loose:List Str}{mean:ExcName->Option Value}{mg mb:Str->Option Value}
theorem law_t4 {nums:List Nat}{i v:Nat}{C O H c Y a b D la pb:Addr}{qs:List WsA}{t tc:Tok}{u:Str->Option Value}{off:List Nat}(pg:Pg P V X nums v C O H c Y a b qs)(hi:i<5)(hv:v<6)(ht:Told (T2 nums) (w2 nums) v off)(hpl:V.pl=some (.int (i:Int) t))
  (h:J P.C (fm u (nmsC D Y a b la pb (((List.range 6).map (term2 nums i v)).sum,tc))) (cls P V++X) rest ks):
  J P.C (fm u (nmsC D Y a b la pb (((List.range 6).map (term2 nums i v)).sum,tc))) (cls P V++X) (lq4::rest) ks:=by
 have h6:(pgCols (leads2 nums)).length=6:=by unfold pgCols leads2;rw[List.length_map,List.length_map,List.length_range]
 have e0:∀j<6,((pgCols (leads2 nums)).getD j []).getD i 0=col2 nums i j/\((pgCols (leads2 nums)).getD j []).length=5:=by
  intro j hj
  rw[pgCols_at _ (by unfold leads2;rw[List.length_map,List.length_range];exact hj),leads2_at nums hj]
  unfold pgRow
  refine⟨?_,by rw[List.length_map,List.length_range]⟩
  rw[List.getD_eq_getElem?_getD,List.getElem?_map,List.getElem?_range hi]
  rfl
 have hX:∀y∈X,y∈cls P V++X:=fun y hy=>List.mem_append_right _ hy
 unfold lq4
 dsimp -zeta only
 refine' J.ifR (R:=fun n=>n=cls P V++X) (BTR.of (BTo.cmp (a:=.int (((List.range 6).map (term2 nums i v)).sum)) (b:=.int (((List.range 5).map (edge2 nums i)).sum)) (P:=¬ ((List.range 6).map (term2 nums i v)).sum=((List.range 5).map (edge2 nums i)).sum) ?n1 (EvTo.of tb0 ?n2) (EvTo.sumR tb0 ?n3 ?n4) ?n5) (fun hn=>hn (cost2 nums hv ht)) rfl) fun n hn=>J.nil (hn▸h)
 case n1=>exact rfl
 case n2=>walk_at "s";exact rfl
 case n3=>exact rfl
 case n5=>exact Iff.rfl
 case n4=>
  intro Q q'
  (refine' Uc.compR (a:=1) (b:=6) 5 (fun j=>.int (edge2 nums i j)) (fun _=>true) ?ahit ?asm ?ars ?ahz ?acl ?acell ?akind ?anames ?ax ?axd ?as ?aturn ?aq;(case acl=>exact rfl);(case acell=>decide);(case akind=>exact rfl);(case anames=>decide);(case ax=>exact rfl);(case axd=>exact rfl);(case as=>exact fun _=>rfl);(case' asm=>try decide);(case' ars=>try decide);(case' ahz=>try decide))
  case ahit=>
   refine range2 tb0 ?_ ?_ ?_ ?_ ?_
   ·exact rfl
   ·exact rfl
   ·exact rfl
   ·walk_at "s"
    exact rfl
   ·walk_at "s"
    exact rfl
  case aturn=>
   intro j tj Cc E' nw' hj hs C2 hnm2
   rw[show(1:Int)+(j:Int)=((1+j:Nat):Int) by push_cast;rfl] at hnm2
   have hs2:∀y∈X,y∈nw':=fun y hy=>hs y (hX y hy)
   have tb2:=TbOk.addQ (x:=ofString "heavy") (TbOk.addQ (x:=ofString "over") (TbOk.addQ (x:=ofString "columns") (TbOk.addN (TbOk.addN (x:=ofString "place") (tb0 (C:=C2) (m:=fm u (nmsC D Y a b la pb (((List.range 6).map (term2 nums i v)).sum,tc))) (nw:=nw')) (.cellU 5 hpl hs rfl rfl rfl rfl)) hnm2) (.cellU 10 pg.co hs rfl rfl rfl rfl) (pg.C.up hs2)) (.cellU 11 pg.ov hs rfl rfl rfl rfl) (pg.O.up hs2)) (.cellU 12 pg.he hs rfl rfl rfl rfl) (pg.H.up hs2)
   have hk:1+j<6:=by omega
   obtain⟨eo,ho⟩:=over_of nums (v:=1+j) (by omega) hk
   obtain⟨e1,e2⟩:=e0 (1+j) hk
   obtain⟨e3,e4⟩:=e0 _ ho
   have c1:=col2_le nums hi (1+j)
   have c2:=col2_le nums hi ((T2 nums).getD (1+j) 0)
   refine⟨rfl,EvTo.of tb2 ?x1⟩
   refine' Uc.Rs.holds_c ?jp ?jc ?_
   case jp=>exact rfl
   case jc=>
    rw[at_nat hk,eo,List.length_map,List.length_map,List.length_range,h6]
    rw[Int.toNat_natCast,Int.toNat_natCast,Int.toNat_natCast,e1,e3,e2,e4]
    omega
   have h0:((List.range 6).map (heavyT (T2 nums) (w2 nums))).getD (Int.toNat 0) 0=heavyT (T2 nums) (w2 nums) 0:=at_nat (f:=heavyT (T2 nums) (w2 nums)) (i:=0) (n:=6) (by decide)
   rw[at_nat hk,at_nat hk,h0,eo,Int.toNat_natCast,Int.toNat_natCast,Int.toNat_natCast,e1,e3]
  case aq=>
   intro D2 vs hv hD
   have e:((List.range 5).filter fun _=>true).map (fun j=>PV.int (edge2 nums i j))=((List.range 5).map (edge2 nums i)).map PV.int:=by
    rw[List.filter_eq_self.mpr fun _ _=>rfl,List.map_map]
    rfl
   rw[e] at hv
   exact q' _ _ ⟨D2,vs,_,_,rfl,.head _,hv.ints,rfl,fun z hz=>.tail _ hz⟩
end
end Uc
end
section
namespace Uc
open PyProof.Rows.LCg PySem.Calls
section
variable {P:LP}{V:CV}{X:Led}{rest:List Stmt}{ks:List (List Stmt)}{p:Program}{loose:List Str}{mean:ExcName->Option Value}{mg mb:Str->Option Value}
theorem Pg.up {nums:List Nat}{v:Nat}{C O H c Y a b:Addr}{qs:List WsA}{X':Led}{Q:Flow->Shared->Prop}{l z:Option Value}(pg:Pg P V X nums v C O H c Y a b qs)(hX:∀y∈X,y∈X'):Pg { P with Q:=Q } { V with pl:=l,k:=z } X' nums v C O H c Y a b qs:=
 ⟨pg.co,pg.ov,pg.he,pg.ab,pg.to,pg.C.up hX,pg.O.up hX,pg.H.up hX,pg.A.up hX,pg.Y.up hX,pg.b.up hX,let ⟨rn,h⟩:=pg.rows;⟨rn,hX _ h⟩,fun y hy=>hX y (pg.ws y hy),pg.wo,pg.ql⟩
theorem law_s16 {nums:List Nat}{v:Nat}{C O H c Y a b la pb:Addr}{qs:List WsA}{u:Str->Option Value}{off:List Nat}(ok:CxOk P.C p loose mean mg mb (fun h=>CodeHd h 213 209) 30 120)(hE:PassesOwn P.C.M P.C.A P.C.env P.C.E)(pg:Pg P V X nums v C O H c Y a b qs)(hv:v<6)(ht:Told (T2 nums) (w2 nums) v off)(nd:Nd (cls P V++X))
  (h:∀u nw,(∀y∈X,y∈nw)->J P.C (fm u (nmsF Y a b la pb)) nw rest ks):J P.C (fm u (nmsF Y a b la pb)) (cls P V++X) (ls16::rest) ks:=by
 unfold ls16
 dsimp -zeta only
 refine' J.forC (σ:=Option Value) (a:=0) (b:=5) (c:=1) (ck:=P.L+6) (o:=P.o 6) (v₀:=V.pl) 5 5 (fun i=>(i:Int)) (fun l z=>cls P { V with pl:=l,k:=z }++X) (fun _=>nmsF Y a b la pb) (fun _ _=>True) V.k ?hit (fun i=>by omega) (by decide) (by decide) hE ?hx ?hc (fun _ _=>rfl) (fun _ _ _=>rfl) ?hs ⟨rfl,rfl,rfl,rfl,rfl,trivial⟩ trivial nd ?turn (fun z u vk hz _=>h u _ fun y hy=>List.mem_append_right _ hy) fun _ h=>h
 case hit=>
  refine range1 tb0 ?_ ?_ ?_
  ·exact rfl
  ·exact rfl
  walk_at "s"
  exact rfl
 case hx=>exact rfl
 case hc=>exact rfl
 case hs=>exact fun _=>rfl
 case turn=>
  intro i t z u I oI hi _ ndT C1
  have ok1:CxOk C1 p loose mean mg mb (fun h=>CodeHd h 213 209) 30 120:=ok.setQ
  have hE1:PassesOwn C1.M C1.A C1.env C1.E:=hE
  show J C1 (fm u (nmsF Y a b la pb)) (cls P { V with pl:=some (.int (i:Int) t),k:=z }++(X++[(I,oI)])) [lq0,lq1,lq2,lq3,lq4] []
  have hX:∀y∈X,y∈X++[(I,oI)]:=fun y hy=>List.mem_append_left _ hy
  obtain⟨Q1,hQ1⟩:∃Q1,Q1=turnC P.C (fun l z=>cls P { V with pl:=l,k:=z }++X) (fun _=>nmsF Y a b la pb) (fun _=>True) I oI (P.C.post (rest::ks)):=⟨_,rfl⟩
  have pg1:Pg { P with Q:=Q1 } { V with pl:=some (.int (i:Int) t),k:=z } (X++[(I,oI)]) nums v C O H c Y a b qs:=pg.up hX
  subst hQ1
  refine law_t0 (P:={ P with Q:=turnC P.C (fun l z=>cls P { V with pl:=l,k:=z }++X) (fun _=>nmsF Y a b la pb) (fun _=>True) I oI (P.C.post (rest::ks)) }) ok1 pg1 hi rfl rfl ndT fun D vs hvs nd2=>?_
  have pg2:=pg1.up (Q:=turnC P.C (fun l z=>cls P { V with pl:=l,k:=z }++X) (fun _=>nmsF Y a b la pb) (fun _=>True) I oI (P.C.post (rest::ks))) (l:=some (.int (i:Int) t)) (z:=z) (X':=(D,lst vs)::(X++[(I,oI)])) fun y hy=>.tail _ hy
  refine law_t1 (P:={ P with Q:=turnC P.C (fun l z=>cls P { V with pl:=l,k:=z }++X) (fun _=>nmsF Y a b la pb) (fun _=>True) I oI (P.C.post (rest::ks)) }) pg2 hi rfl rfl (.head _) hvs ?_
  refine law_t2 (P:={ P with Q:=turnC P.C (fun l z=>cls P { V with pl:=l,k:=z }++X) (fun _=>nmsF Y a b la pb) (fun _=>True) I oI (P.C.post (rest::ks)) }) fun t2=>?_
  refine J.gen (nmsC D Y a b la pb (0,t2)) ⟨rfl,rfl,rfl,rfl,rfl,rfl,rfl,trivial⟩ fun u2=>?_
  refine law_t3 (P:={ P with Q:=turnC P.C (fun l z=>cls P { V with pl:=l,k:=z }++X) (fun _=>nmsF Y a b la pb) (fun _=>True) I oI (P.C.post (rest::ks)) }) hE1 pg2 hv (.head _) hvs nd2 fun u3 t3 vk=>?_
  have pg3:=pg2.up (Q:=turnC P.C (fun l z=>cls P { V with pl:=l,k:=z }++X) (fun _=>nmsF Y a b la pb) (fun _=>True) I oI (P.C.post (rest::ks))) (l:=some (.int (i:Int) t)) (z:=vk) fun y hy=>hy
  refine law_t4 (P:={ P with Q:=turnC P.C (fun l z=>cls P { V with pl:=l,k:=z }++X) (fun _=>nmsF Y a b la pb) (fun _=>True) I oI (P.C.post (rest::ks)) }) pg3 hi hv ht rfl ?_
  refine J.tnC (C:=P.C) vk (some (.int (i:Int) t)) ⟨rfl,rfl,rfl,rfl,rfl,trivial⟩ trivial ndT fun y hy=>?_
  rcases List.mem_append.mp hy with hy|hy
  ·rcases List.mem_append.mp hy with hy|hy
   ·exact List.mem_append_left _ hy
   ·exact List.mem_append_right _ (.tail _ (List.mem_append_left _ hy))
  ·exact List.mem_append_right _ (.tail _ (List.mem_append_right _ hy))
theorem law_s17 {m:Str->Option Value}{nw:Led}(h:At P.C m nw (P.C.Q (.ret (.bool true)))):J P.C m nw (ls17::rest) ks:=by
 unfold ls17
 dsimp -zeta only
 refine' J.retR (EvR.to (v:=.bool true) (EvTo.of tb0 ?a) fun t=>h)
 case a=>walk_at "s";exact rfl
end
end Uc
end
section
namespace Uc
open PyProof.Rows.LCg PySem.Calls
noncomputable abbrev V0 (sc:Addr):CV:=⟨some (.ref sc),none,none,none,none,none,none,none,none,none,none,none,none⟩
section
variable {P:LP}{p:Program}{loose:List Str}{mean:ExcName->Option Value}{mg mb:Str->Option Value}{m:Str->Option Value}
theorem law_J (ok:CxOk P.C p loose mean mg mb (fun h=>CodeHd h 213 209) 30 120)(hE:PassesOwn P.C.M P.C.A P.C.env P.C.E){sc:Addr}{vs:List Value}{ns:List Int}(hsc:P.h₀.IsList sc vs.toArray)(hI:IntsAre vs ns)(hlen:vs.length<=63)
  (nd:Nd (cls P (V0 sc)++[(209,tabObj #[])])) (ret:∀m nw tps,(209,tabObj tps)∈nw->At P.C m nw (P.Q (.ret (.bool true)))):J P.C m (cls P (V0 sc)++[(209,tabObj #[])]) [ls0,ls1,ls2,ls3,ls4,ls5,ls6,ls7,ls8,ls9,ls10,ls11,ls12,ls13,ls14,ls15,ls16,ls17] []:=by
 refine @law_s0 P (V0 sc) [(209,tabObj #[])] m [ls1,ls2,ls3,ls4,ls5,ls6,ls7,ls8,ls9,ls10,ls11,ls12,ls13,ls14,ls15,ls16,ls17] [] nd fun N F nv fv hnv hfv nd1=>?_
 refine' law_s1 (P:=P) (V:={ V0 sc with fi:=some (.ref F),na:=some (.ref N) }) (led:=[(N,listOf nv.toArray 0),(F,listOf fv.toArray 0),(209,tabObj #[])]) (m:=m) (rest:=[ls2,ls3,ls4,ls5,ls6,ls7,ls8,ls9,ls10,ls11,ls12,ls13,ls14,ls15,ls16,ls17]) (ks:=[]) nd1 ?_ ?_ (.tail _ (.head _)) hfv hsc hI hlen fun D dv nums h6 hb hdv nd2=>?_
 ·exact rfl
 ·exact rfl
 refine @law_s2 P { V0 sc with fi:=some (.ref F),na:=some (.ref N),nu:=some (.ref D) } [(D,lst dv),(N,listOf nv.toArray 0),(F,listOf fv.toArray 0),(209,tabObj #[])] m [ls3,ls4,ls5,ls6,ls7,ls8,ls9,ls10,ls11,ls12,ls13,ls14,ls15,ls16,ls17] [] nd2 fun la pb t0 nd3=>?_
 refine J.gen (C:=P.C) [(ofString "leads",.ref la),(ofString "prices",.ref pb),(ofString "text",.str (mkL []) t0)] ⟨rfl,rfl,rfl,trivial⟩ fun u=>?_
 refine' law_s3 (P:=P) (V:={ V0 sc with fi:=some (.ref F),na:=some (.ref N),nu:=some (.ref D) }) (led:=[(D,lst dv),(N,listOf nv.toArray 0),(F,listOf fv.toArray 0),(209,tabObj #[])]) (rest:=[ls4,ls5,ls6,ls7,ls8,ls9,ls10,ls11,ls12,ls13,ls14,ls15,ls16,ls17]) (ks:=[]) (u:=u) (t0:=t0) ok hE ?_ (.tail _ (.head _)) hnv ?_ (.head _) hdv h6 hb nd3 fun u vk lv ln pv pn tx hlv hpv=>?_
 ·exact rfl
 ·exact rfl
 have pm4:(cls P { V0 sc with fi:=some (.ref F),na:=some (.ref N),nu:=some (.ref D),k:=vk }++([(pb,listOf pv.toArray pn),(la,listOf lv.toArray ln),(D,lst dv),(N,listOf nv.toArray 0),(F,listOf fv.toArray 0)]++[(209,tabObj #[])])).Perm (cls P { V0 sc with fi:=some (.ref F),na:=some (.ref N),nu:=some (.ref D),k:=vk }++((209,tabObj #[])::[(pb,listOf pv.toArray pn),(la,listOf lv.toArray ln),(D,lst dv),(N,listOf nv.toArray 0),(F,listOf fv.toArray 0)])):=List.Perm.append_left _ List.perm_append_comm
 have nd4:Nd (cls P { V0 sc with fi:=some (.ref F),na:=some (.ref N),nu:=some (.ref D),k:=vk }++((209,tabObj #[])::[(pb,listOf pv.toArray pn),(la,listOf lv.toArray ln),(D,lst dv),(N,listOf nv.toArray 0),(F,listOf fv.toArray 0)])):=Nd.perm pm4 nd3
 refine J.sub (nw':=cls P { V0 sc with fi:=some (.ref F),na:=some (.ref N),nu:=some (.ref D),k:=vk }++((209,tabObj #[])::[(pb,listOf pv.toArray pn),(la,listOf lv.toArray ln),(D,lst dv),(N,listOf nv.toArray 0),(F,listOf fv.toArray 0)])) (fun z hz=>pm4.mem_iff.mpr hz) ?_
 have hxl:=text2_len nums 6 (Nat.le_refl _)
 refine' law_s4 (P:=P) (V:={ V0 sc with fi:=some (.ref F),na:=some (.ref N),nu:=some (.ref D),k:=vk }) (led:=[(pb,listOf pv.toArray pn),(la,listOf lv.toArray ln),(D,lst dv),(N,listOf nv.toArray 0),(F,listOf fv.toArray 0)]) (m:=fm u [(ofString "leads",.ref la),(ofString "prices",.ref pb),(ofString "text",.str (mkL (text2 nums 6)) tx)]) (rest:=[ls5,ls6,ls7,ls8,ls9,ls10,ls11,ls12,ls13,ls14,ls15,ls16,ls17]) (ks:=[]) (x:=text2 nums 6) (t0:=tx) ok ?_ (by omega) nd4 fun q tl pk ss sn tps n0 lok hss nd5=>?_
 ·exact rfl
 obtain⟨led,hled⟩:∃l:Led,l=((209,tabObj tps)::[(pb,listOf pv.toArray pn),(la,listOf lv.toArray ln),(D,lst dv),(N,listOf nv.toArray 0),(F,listOf fv.toArray 0)]):=⟨_,rfl⟩
 rw[<-hled] at nd5 ⊢
 have mD:(D,lst dv)∈led:=hled▸.tail _ (.tail _ (.tail _ (.head _)))
 have mN:(N,listOf nv.toArray 0)∈led:=hled▸.tail _ (.tail _ (.tail _ (.tail _ (.head _))))
 have mpb:(pb,listOf pv.toArray pn)∈led:=hled▸.tail _ (.head _)
 have mla:(la,listOf lv.toArray ln)∈led:=hled▸.tail _ (.tail _ (.head _))
 have mTB:(209,tabObj tps)∈led:=hled▸.head _
 refine @law_s5 P { V0 sc with fi:=some (.ref F),na:=some (.ref N),nu:=some (.ref D),k:=vk,lx:=some (.ref q.X) } (lexLed P.w q 1 tl [] pk ss sn++led) (fm u [(ofString "leads",.ref la),(ofString "prices",.ref pb),(ofString "text",.str (mkL (text2 nums 6)) tx)]) [ls6,ls7,ls8,ls9,ls10,ls11,ls12,ls13,ls14,ls15,ls16,ls17] [] nd5 fun a b c e nd6=>?_
 refine J.gen (C:=P.C) (nms6 a b e la pb (text2 nums 6) tx) ⟨rfl,rfl,rfl,rfl,rfl,rfl,trivial⟩ fun u=>?_
 refine' law_s6 (P:=P) (V:={ V0 sc with fi:=some (.ref F),na:=some (.ref N),nu:=some (.ref D),k:=vk,lx:=some (.ref q.X),ab:=some (.ref c) }) (led:=led) (rest:=[ls7,ls8,ls9,ls10,ls11,ls12,ls13,ls14,ls15,ls16,ls17]) (ks:=[]) (u:=u) (T:=1+((text2 nums 6++[101,110,100]).count 10:Nat)) ok hE lok ?_ ?_ ?_ mN hnv ?_ mD hdv h6 mpb hpv rfl hss nd6 fun u vk z hR6 nd7=>?_
 ·exact rfl
 ·exact rfl
 ·exact rfl
 ·exact rfl
 obtain⟨T,hT⟩:∃T:Int,T=1+((text2 nums 6++[101,110,100]).count 10:Nat):=⟨_,rfl⟩
 rw[<-hT] at hR6 nd7 ⊢
 obtain⟨hah,hcl,hct,hzs,hql,hqo,hwv,hav,hpz⟩:=hR6
 have nd8:Nd (cls P { V0 sc with fi:=some (.ref F),na:=some (.ref N),nu:=some (.ref D),lx:=some (.ref q.X),ab:=some (.ref c),k:=vk }++(lexLed P.w q (T-z.cs.count 10) z.tl [] z.pn z.ss z.sn++([(e,listOf z.pv.toArray z.pk),(c,listOf z.av.toArray z.an),(b,listOf z.wv.toArray z.wn),(a,listOf (rowRefs z.qs).toArray z.rn)]++(wsAll P.w (sm2 nums) z.qs++led)))):=Nd.perm (List.Perm.append_left _ (List.perm_append_comm_assoc [(e,listOf z.pv.toArray z.pk),(c,listOf z.av.toArray z.an),(b,listOf z.wv.toArray z.wn),(a,listOf (rowRefs z.qs).toArray z.rn)] (lexLed P.w q (T-z.cs.count 10) z.tl [] z.pn z.ss z.sn) (wsAll P.w (sm2 nums) z.qs++led))) nd7
 refine J.sub (nw':=cls P { V0 sc with fi:=some (.ref F),na:=some (.ref N),nu:=some (.ref D),lx:=some (.ref q.X),ab:=some (.ref c),k:=vk }++(lexLed P.w q (T-z.cs.count 10) z.tl [] z.pn z.ss z.sn++([(e,listOf z.pv.toArray z.pk),(c,listOf z.av.toArray z.an),(b,listOf z.wv.toArray z.wn),(a,listOf (rowRefs z.qs).toArray z.rn)]++(wsAll P.w (sm2 nums) z.qs++led)))) (fun y hy=>(List.Perm.append_left (cls P { V0 sc with fi:=some (.ref F),na:=some (.ref N),nu:=some (.ref D),lx:=some (.ref q.X),ab:=some (.ref c),k:=vk }) (List.perm_append_comm_assoc [(e,listOf z.pv.toArray z.pk),(c,listOf z.av.toArray z.an),(b,listOf z.wv.toArray z.wn),(a,listOf (rowRefs z.qs).toArray z.rn)] (lexLed P.w q (T-z.cs.count 10) z.tl [] z.pn z.ss z.sn) (wsAll P.w (sm2 nums) z.qs++led))).mem_iff.mpr hy) ?_
 obtain⟨r7,hr7⟩:∃l:Led,l=[(e,listOf z.pv.toArray z.pk),(c,listOf z.av.toArray z.an),(b,listOf z.wv.toArray z.wn),(a,listOf (rowRefs z.qs).toArray z.rn)]++(wsAll P.w (sm2 nums) z.qs++led):=⟨_,rfl⟩
 rw[<-hr7] at nd8 ⊢
 have ml:∀y∈led,y∈r7:=fun y hy=>hr7▸List.mem_append_right _ (List.mem_append_right _ hy)
 have mws:∀y∈wsAll P.w (sm2 nums) z.qs,y∈r7:=fun y hy=>hr7▸List.mem_append_right _ (List.mem_append_left _ hy)
 have mc:(c,listOf z.av.toArray z.an)∈r7:=hr7▸.tail _ (.head _)
 have mb7:(b,listOf z.wv.toArray z.wn)∈r7:=hr7▸.tail _ (.tail _ (.head _))
 have ma:(a,listOf (rowRefs z.qs).toArray z.rn)∈r7:=hr7▸.tail _ (.tail _ (.tail _ (.head _)))
 clear hr7 nd7
 refine' law_s7 (P:=P) (V:={ V0 sc with fi:=some (.ref F),na:=some (.ref N),nu:=some (.ref D),lx:=some (.ref q.X),ab:=some (.ref c),k:=vk }) (r:=r7) (rest:=[ls8,ls9,ls10,ls11,ls12,ls13,ls14,ls15,ls16,ls17]) (ks:=[]) (u:=u) (nums:=nums) (NM:=nms6 a b e la pb (text2 nums 6) tx) ok hE lok ?_ ?_ (ml _ mN) hnv ?_ (ml _ mD) hdv (fun u=>⟨rfl,rfl,rfl,rfl,rfl,rfl,trivial⟩) nd8 fun u vk7 ps pn7 hps nd9=>?_
 ·exact rfl
 ·exact rfl
 ·exact rfl
 have hwl:z.wv.length=6:=by rw[intsAre_len hwv,List.length_map,List.length_range]
 refine' law_s8 (P:=P) (V:={ V0 sc with fi:=some (.ref F),na:=some (.ref N),nu:=some (.ref D),lx:=some (.ref q.X),ab:=some (.ref c),k:=vk7 }) (r:=lexLed P.w q (T-z.cs.count 10) z.tl ps pn7 z.ss z.sn++r7) (m:=fm u (nms6 a b e la pb (text2 nums 6) tx)) (rest:=[ls9,ls10,ls11,ls12,ls13,ls14,ls15,ls16,ls17]) (ks:=[]) (ws:=(List.range 6).map (w2 nums)) nd9 ?_ (List.mem_append_right _ mb7) hwv (by omega) fun Gt O G gn tt hG nd10=>?_
 ·exact rfl
 refine J.gen (C:=P.C) (nms9 Gt a b e la pb (text2 nums 6) tx) ⟨rfl,rfl,rfl,rfl,rfl,rfl,rfl,trivial⟩ fun u=>?_
 refine' law_s9 (P:=P) (V:={ V0 sc with fi:=some (.ref F),na:=some (.ref N),nu:=some (.ref D),lx:=some (.ref q.X),ab:=some (.ref c),k:=vk7,off:=some (.ref O),to:=some (.int (-1) tt) }) (r:=r7) (rest:=[ls10,ls11,ls12,ls13,ls14,ls15,ls16,ls17]) (ks:=[]) (u:=u) (nums:=nums) ok hE lok ?_ ?_ ?_ ?_ (ml _ mN) hnv mc hav mb7 hwv hG hps nd10 fun u z9 vk9 t9 v off bd hR9 hTold hol nd11=>?_
 ·exact rfl
 ·exact rfl
 ·exact rfl
 ·exact rfl
 obtain⟨r9,hr9⟩:∃l:Led,l=gLed z9.G++((Gt,listOf (gRef G).toArray gn)::r7):=⟨_,rfl⟩
 have m7:∀y∈r7,y∈r9:=fun y hy=>hr9▸List.mem_append_right _ (.tail _ hy)
 replace nd11:Nd (cls P { V0 sc with fi:=some (.ref F),na:=some (.ref N),nu:=some (.ref D),lx:=some (.ref q.X),ab:=some (.ref c),off:=some (.ref O),to:=some (.int (v:Int) t9),k:=vk9 }++((O,listOf z9.ov.toArray z9.on)::(lexLed P.w q (T-z.cs.count 10) z.tl z9.ps z9.pn z.ss z.sn++r9))):=hr9▸nd11
 show J P.C (fm u (nms9 Gt a b e la pb (text2 nums 6) tx)) (cls P { V0 sc with fi:=some (.ref F),na:=some (.ref N),nu:=some (.ref D),lx:=some (.ref q.X),ab:=some (.ref c),off:=some (.ref O),to:=some (.int (v:Int) t9),k:=vk9 }++((O,listOf z9.ov.toArray z9.on)::(lexLed P.w q (T-z.cs.count 10) z.tl z9.ps z9.pn z.ss z.sn++(gLed z9.G++((Gt,listOf (gRef G).toArray gn)::r7))))) _ _
 rw[<-hr9]
 clear hr9
 refine' law_s10 (P:=P) (V:={ V0 sc with fi:=some (.ref F),na:=some (.ref N),nu:=some (.ref D),lx:=some (.ref q.X),ab:=some (.ref c),off:=some (.ref O),to:=some (.int (v:Int) t9),k:=vk9 }) (led:=(O,listOf z9.ov.toArray z9.on)::(lexLed P.w q (T-z.cs.count 10) z.tl z9.ps z9.pn z.ss z.sn++r9)) (m:=fm u (nms9 Gt a b e la pb (text2 nums 6) tx)) (rest:=[ls11,ls12,ls13,ls14,ls15,ls16,ls17]) (ks:=[]) (v:=v) (off:=off) (t:=t9) ?_ ?_ (.head _) hR9.ov ?_ (.tail _ (List.mem_append_right _ (m7 _ (ml _ mN)))) hnv hol nd11 fun D1 ws hws nd12=>?_
 ·exact rfl
 ·exact rfl
 ·exact rfl
 have hxl6:=text2_len nums 6 (Nat.le_refl _)
 have hcnt:(text2 nums 6++[101,110,100]).count 10=(text2 nums 6).count 10:=by rw[List.count_append];rfl
 have hcle:(text2 nums 6).count 10<=120:=Nat.le_trans List.count_le_length hxl6
 have hT1:T<=1000:=by omega
 have hbl:(behind v off).length<=5:=by
  unfold behind
  exact Nat.le_trans (List.length_filter_le _ _) (by rw[List.length_map,List.length_range];exact Nat.le_refl _)
 refine' law_s11 (P:=P) (V:={ V0 sc with fi:=some (.ref F),na:=some (.ref N),nu:=some (.ref D),lx:=some (.ref q.X),ab:=some (.ref c),off:=some (.ref O),to:=some (.int (v:Int) t9),k:=vk9 }) (A1:=[(D1,lst ws),(O,listOf z9.ov.toArray z9.on)]) (r:=r9) (m:=up (fm u (nms9 Gt a b e la pb (text2 nums 6) tx)) (ofString "waiting") (.ref D1)) (rest:=[ls12,ls13,ls14,ls15,ls16,ls17]) (ks:=[]) (v:=v) (t:=t9) (xs:=(behind v off).map namV) ok lok ?_ ?_ ?_ (.head _) hws hR9.ps ?_ hah hzs hcl ⟨hct,hT1⟩ nd12 fun tl2 pk2 ss2 sn2 hss2 nd13=>?_
 ·exact rfl
 ·exact rfl
 ·exact rfl
 ·rw[List.length_map];omega
 refine' law_s12 (P:=P) (V:={ V0 sc with fi:=some (.ref F),na:=some (.ref N),nu:=some (.ref D),lx:=some (.ref q.X),ab:=some (.ref c),off:=some (.ref O),to:=some (.int (v:Int) t9),k:=vk9 }) (A1:=[(D1,lst ws),(O,listOf z9.ov.toArray z9.on)]) (r:=r9) (m:=up (fm u (nms9 Gt a b e la pb (text2 nums 6) tx)) (ofString "waiting") (.ref D1)) (rest:=[ls13,ls14,ls15,ls16,ls17]) (ks:=[]) (x:=text2 nums 6) (tx:=tx) ok lok ?_ ?_ (by omega) hss2 (by rw[hT,hcnt]) nd13 fun tl3 pk3 ss3 sn3 nd14=>?_
 ·exact rfl
 ·exact rfl
 obtain⟨l13,h13⟩:∃l:Led,l=[(D1,lst ws),(O,listOf z9.ov.toArray z9.on)]++(lexLed P.w q T tl3 [] pk3 ss3 sn3++r9):=⟨_,rfl⟩
 rw[<-h13] at nd14 ⊢
 have m13:∀y∈r7,y∈l13:=fun y hy=>h13▸List.mem_append_right _ (List.mem_append_right _ (m7 y hy))
 clear h13
 refine' law_s13 (P:=P) (V:={ V0 sc with fi:=some (.ref F),na:=some (.ref N),nu:=some (.ref D),lx:=some (.ref q.X),ab:=some (.ref c),off:=some (.ref O),to:=some (.int (v:Int) t9),k:=vk9 }) (led:=l13) (m:=up (fm u (nms9 Gt a b e la pb (text2 nums 6) tx)) (ofString "waiting") (.ref D1)) (rest:=[ls14,ls15,ls16,ls17]) (ks:=[]) (v:=v) (t:=t9) ?_ nd14 fun Y t13 nd15=>?_
 ·exact rfl
 refine J.gen (C:=P.C) (nmsF Y a b la pb) ⟨rfl,rfl,rfl,rfl,rfl,trivial⟩ fun u=>?_
 refine' law_s14 (P:=P) (V:={ V0 sc with fi:=some (.ref F),na:=some (.ref N),nu:=some (.ref D),lx:=some (.ref q.X),ab:=some (.ref c),off:=some (.ref O),to:=some (.int (v:Int) t9),k:=vk9 }) (led:=l13) (rest:=[ls15,ls16,ls17]) (ks:=[]) (nums:=nums) (l:=[(ofString "rows",.ref a),(ofString "weights",.ref b),(ofString "leads",.ref la),(ofString "prices",.ref pb)]) (u:=u) hE (fun u=>⟨rfl,rfl,rfl,rfl,rfl,trivial⟩) hTold.lt ?_ (m13 _ mc) hav nd15 fun u yv yn hyv nd16=>?_
 ·exact rfl
 refine law_s15 (P:=P) (V:={ V0 sc with fi:=some (.ref F),na:=some (.ref N),nu:=some (.ref D),lx:=some (.ref q.X),ab:=some (.ref c),off:=some (.ref O),to:=some (.int (v:Int) t9),k:=vk9 }) (led:=(Y,listOf yv.toArray yn)::l13) (rest:=[ls16,ls17]) (ks:=[]) (nums:=nums) (u:=u) ok (.tail _ (m13 _ (ml _ mla))) (by unfold leads2;rw[List.map_map];exact hlv) (.tail _ (m13 _ (ml _ mpb))) hpv nd16 fun C O2 H X hC hO2 hH hX nd17=>?_
 have pg:Pg P { V0 sc with fi:=some (.ref F),na:=some (.ref N),nu:=some (.ref D),lx:=some (.ref q.X),ab:=some (.ref c),off:=some (.ref O),to:=some (.int (v:Int) t9),k:=vk9,co:=some (.ref C),ov:=some (.ref O2),he:=some (.ref H) } X nums v C O2 H c Y a b z.qs:=⟨rfl,rfl,rfl,rfl,⟨t9,rfl⟩,hC,hO2,hH,⟨_,_,hX _ (.tail _ (m13 _ mc)),hav⟩,⟨_,_,hX _ (.head _),hyv⟩,⟨_,_,hX _ (.tail _ (m13 _ mb7)),hwv⟩,⟨_,hX _ (.tail _ (m13 _ ma))⟩,fun y hy=>hX y (.tail _ (m13 y (mws y hy))),hqo,hql⟩
 refine law_s16 (P:=P) (rest:=[ls17]) (ks:=[]) ok hE pg hTold.lt hTold nd17 fun u nw hnw=>?_
 exact law_s17 (P:=P) (ret _ _ tps (hnw _ (hX _ (.tail _ (m13 _ (ml _ mTB))))))
end
end Uc
end
section
namespace Uc
open PyProof.Rows.LCg PySem.Calls
noncomputable abbrev lawA (dp un:Nat)(gd:Option (List Code))(outer:List Env)(L fa:Addr)(cd:Value):Around:=ktrTop dp un gd (ofString "law") f22_scope L fa cd (lawCl L) outer
theorem nd_cells (L T:Nat)(h:T<L): [L+1,L+2,L+3,L+4,L+5,L+6,L+7,L+8,L+9,L+10,L+11,L+12,L+13,T].Nodup:=by
 show(List.range' (L+1) 13++[T]).Nodup
 refine List.nodup_append.mpr ⟨List.nodup_range',List.nodup_cons.mpr ⟨List.not_mem_nil,List.nodup_nil⟩,fun a ha b hb=>?_⟩
 have:=(List.mem_range'_1.mp ha).1
 have:=List.mem_singleton.mp hb
 omega
noncomputable def cel (cm:Str->Option Value):(Nat->Obj)->List (Str×Addr)->Led
 |_,[]=>[]
 |g,(n,c)::cs=>(c,celO (g 0) (cm n))::cel cm (fun i=>g (i+1)) cs
noncomputable def gcons (o:Obj)(g:Nat->Obj):Nat->Obj
 |0=>o
 |i+1=>g i
theorem cells_cel {cm:Str->Option Value}:∀{cs:List (Str×Addr)} {cells:List (Addr×Obj)},CellsAre cm cs cells->∃g:Nat->Obj,cells=cel cm g cs
 |_,_,.nil=>⟨fun _=>tabObj #[],rfl⟩
 |_,_,.cons (c:=c) (o:=o) h r=>(cells_cel r).elim fun g e=>⟨gcons o g,e▸congrArg (fun x=>(c,x)::cel _ g _) (celO_is h)⟩
section
variable (p:Program)(loose:List Str)(mean:ExcName->Option Value)(mg mb:Str->Option Value)
theorem J.run {C:Cx}{m:Str->Option Value}{nw:Led}{st:List Stmt}(j:J C m nw st [])(F:Fr C.h₀ C.L C.s.heap m)(N:News C.h₀ C.L C.s.heap nw):wpAny C.M C.A (execs st C.env) C.Q C.E C.s:=j C.s.heap C.s.toks F N
theorem law_go {P:LP}{m:Str->Option Value}(ok:CxOk P.C p loose mean mg mb (fun h=>CodeHd h 213 209) 30 120)(hE:PassesOwn P.C.M P.C.A P.C.env P.C.E){sc:Addr}{vs:List Value}{ns:List Int}(hsc:P.h₀.IsList sc vs.toArray)(hI:IntsAre vs ns)(hlen:vs.length<=63)
  (nd:Nd (cls P (V0 sc)++[(209,tabObj #[])])) (F:Fr P.C.h₀ P.C.L P.C.s.heap m) (N:News P.C.h₀ P.C.L P.C.s.heap (cls P (V0 sc)++[(209,tabObj #[])]))
  (ret:∀h' tk' m' tps nw,(209,tabObj tps)∈nw->Fr P.h₀ P.L h' m'->News P.h₀ P.L h' nw->P.Q (.ret (.bool true)) { P.s with heap:=h',toks:=tk' }):
  wpAny P.C.M P.C.A (execs f22_body P.C.env) P.C.Q P.C.E P.C.s:=by
 have r:∀m nw tps,(209,tabObj tps)∈nw->At P.C m nw (P.Q (.ret (.bool true))):=fun m' nw tps hm h' tk' F' N'=>ret h' tk' m' tps nw hm F' N'
 rw[law_stmts]
 refine @J.run P.C m _ _ ?_ F N
 exact @law_J P p loose mean mg mb m ok hE sc vs ns hsc hI hlen nd r
end
section
variable (w:World)(p:Program)(loose:List Str)(mean:ExcName->Option Value)(mg mb:Str->Option Value)
theorem law_body13 {h₀:Heap}{L fa:Addr}{cd:Value}{s:Shared}{Q:Flow->Shared->Prop}{E:Value->Shared->Prop}{m:Str->Option Value}{A₀:Around}{base:Heap}{outer:List Env}{dp un:Nat}{gd:Option (List Code)}(B:Below A₀ base outer h₀)(hpre:CodeHd base 213 209)(hdp:dp+30<recursionLimit)(hun:un+120<cLine)(hE:PassesOwn (model Pm w) (lawA dp un gd outer L fa cd) (lawEnv L fa cd) E)(X:(K w.params).In h₀)(T:Top p loose mean mg mb h₀)
  {sc:Addr} {vs:List Value} {ns:List Int} (hsc:h₀.IsList sc vs.toArray) (hI:IntsAre vs ns) (hlen:vs.length<=63) {g:Nat->Obj}
  (F:Fr h₀ L s.heap m) (N:News h₀ L s.heap [(L+13,celO (g 0) none),(L+12,celO (g 1) none),(L+11,celO (g 2) none),(L+10,celO (g 3) none),(L+9,celO (g 4) none),(L+8,celO (g 5) none),(L+7,celO (g 6) none),(L+6,celO (g 7) none),(L+5,celO (g 8) none),(L+4,celO (g 9) none),(L+3,celO (g 10) none),(L+2,celO (g 11) none),(L+1,celO (g 12) (some (.ref sc))),(209,tabObj #[])]) (hTB:@LT.lt Nat _ 209 L)
  (ret:∀h' tk' m' tps news',Fr h₀ L h' m'->News h₀ L h' ((209,tabObj tps)::news')->Q (.ret (.bool true)) { s with heap:=h',toks:=tk' }):
  wpAny (model Pm w) (lawA dp un gd outer L fa cd) (execs f22_body (lawEnv L fa cd)) Q E s:=by
 have hu:(lawA dp un gd outer L fa cd).units<cLine:=by ktr_units
 have ok:CxOk (LP.C ⟨w,lawA dp un gd outer L fa cd,E,h₀,L,s,fa,cd,Q,fun k=>g (13-k),rfl,hu,gl_ok X T⟩) p loose mean mg mb (fun h=>CodeHd h 213 209) 30 120:=
  ⟨rfl,X,T,⟨dp,un,gd,outer,A₀,base,rfl,⟨_,_,_,_,_,rfl,rfl⟩,B,hpre,hdp,hun⟩⟩
 have N1:News h₀ L s.heap ([(L+1,celO (g 12) (some (.ref sc))),(L+2,celO (g 11) none),(L+3,celO (g 10) none),(L+4,celO (g 9) none),(L+5,celO (g 8) none),(L+6,celO (g 7) none),(L+7,celO (g 6) none),(L+8,celO (g 5) none),(L+9,celO (g 4) none),(L+10,celO (g 3) none),(L+11,celO (g 2) none),(L+12,celO (g 1) none),(L+13,celO (g 0) none)]++[(209,tabObj #[])]):=News.sub N fun y hy=>(List.mem_append.mp hy).elim (fun h=>List.mem_append_left [(209,tabObj #[])] (List.mem_reverse.mpr h)) fun h=>List.mem_append_right [(L+13,celO (g 0) none),(L+12,celO (g 1) none),(L+11,celO (g 2) none),(L+10,celO (g 3) none),(L+9,celO (g 4) none),(L+8,celO (g 5) none),(L+7,celO (g 6) none),(L+6,celO (g 7) none),(L+5,celO (g 8) none),(L+4,celO (g 9) none),(L+3,celO (g 10) none),(L+2,celO (g 11) none),(L+1,celO (g 12) (some (.ref sc)))] h
 exact @law_go p loose mean mg mb ⟨w,lawA dp un gd outer L fa cd,E,h₀,L,s,fa,cd,Q,fun k=>g (13-k),rfl,hu,gl_ok X T⟩ m ok hE sc vs ns hsc hI hlen (nd_cells L 209 hTB) F N1 fun h' tk' m' tps nw hm F' N2=>ret h' tk' m' tps nw F' (News.sub N2 fun y hy=>(List.mem_cons.mp hy).elim (fun q=>q▸hm) id)
end
end Uc
end
section
namespace Uc
noncomputable def st22:Stmt:=.FunctionDef (ofString "law") f22_args f22_body [] none [] f22_scope none (ofString "law") ⟨206,0,267,15⟩
noncomputable def qv:Program:={ Challenge.pw_uc0057_02 with main:={ Challenge.pw_uc0057_02.main with body:=[st22] } }
noncomputable def qLoose:List Str:=[ofString "_wall",ofString "Whitespace",ofString "_netrclex",ofString "b1_set",ofString "in_table_b1",ofString "b3_exceptions",ofString "map_table_b3",ofString "_MAX_STRING_SIZE",ofString "_MOVE_COST",ofString "_CASE_COST",ofString "_substitution_cost",ofString "_levenshtein_distance",ofString "_law_lexer",ofString "_law_typed",ofString "_law_spelled",ofString "_law_column",ofString "_law_page"]
noncomputable abbrev rowC:=Challenge.rw_uc0057_02.row
noncomputable def hook:Hook:=kmHook K Kas (fun _=>by kernel_rfl) [209]
theorem lawNews {h₀ h:Heap}{L:Addr}{g:Nat->Obj}{v:Option Value}{T:Obj}(N:News h₀ L h [(L+1+1+1+1+1+1+1+1+1+1+1+1+1,celO (g 0) none),(L+1+1+1+1+1+1+1+1+1+1+1+1,celO (g 1) none),(L+1+1+1+1+1+1+1+1+1+1+1,celO (g 2) none),(L+1+1+1+1+1+1+1+1+1+1,celO (g 3) none),(L+1+1+1+1+1+1+1+1+1,celO (g 4) none),(L+1+1+1+1+1+1+1+1,celO (g 5) none),(L+1+1+1+1+1+1+1,celO (g 6) none),(L+1+1+1+1+1+1,celO (g 7) none),(L+1+1+1+1+1,celO (g 8) none),(L+1+1+1+1,celO (g 9) none),(L+1+1+1,celO (g 10) none),(L+1+1,celO (g 11) none),(L+1,celO (g 12) v),(209,T)]):News h₀ L h [(L+13,celO (g 0) none),(L+12,celO (g 1) none),(L+11,celO (g 2) none),(L+10,celO (g 3) none),(L+9,celO (g 4) none),(L+8,celO (g 5) none),(L+7,celO (g 6) none),(L+6,celO (g 7) none),(L+5,celO (g 8) none),(L+4,celO (g 9) none),(L+3,celO (g 10) none),(L+2,celO (g 11) none),(L+1,celO (g 12) v),(209,T)]:=N
local macro_rules | `(tactic|cells_open $x:ident)=> `(tactic|(obtain⟨g,he⟩:=Uc.cells_cel $x;replace he:_=[(_,Uc.celO (g 0) none),(_,Uc.celO (g 1) none),(_,Uc.celO (g 2) none),(_,Uc.celO (g 3) none),(_,Uc.celO (g 4) none),(_,Uc.celO (g 5) none),(_,Uc.celO (g 6) none),(_,Uc.celO (g 7) none),(_,Uc.celO (g 8) none),(_,Uc.celO (g 9) none),(_,Uc.celO (g 10) none),(_,Uc.celO (g 11) none),(_,Uc.celO (g 12) (some _))]:=he;subst he;clear $x))
theorem look2 {a b:Bool}(x:a=true)(y:b=true):(a&&b)=true:=by rw[x,y];rfl
theorem wS:OpenLaw.wellSaid Challenge.rw_uc0057_02=true:=by
 unfold OpenLaw.wellSaid OpenRow.wellSaid OpenRow.partSaid looksOpen
 repeat' (with_reducible refine look2 ?_ ?_)
 all_goals decide+kernel
theorem head_of (hl:LeftO Challenge.pw_uc0057_02 qv qLoose (fun s=>xlAt qv [] s&&recOk (RowW.records rowC.toRowW) s) hook.obs hook.val 40000):Challenge.rw_uc0057_02.Holds:=by
 w_on
 refine holds_law wS fun said=>?_
 refine holds_open (q:=qv) (loose:=qLoose) (Xt:=fun s=>xlAt qv [] s&&recOk (RowW.records rowC.toRowW) s) (XP:=XL qv []) (Yf:=hook.obs) (Ya:=hook.val) (YP:=hook.says) (N:=40000) hl hook.of hook.keeps (fun s e=>xl_of s (Bool.and_eq_true_iff.mp e).1) XL.keeps (by rfl) (by rfl) (by rfl) (fun s e=>recFacts_of (Bool.and_eq_true_iff.mp e).2) (by rfl) (by first|assumption|decide+kernel) (by decide+kernel) ⟨rfl,rfl,rfl,rfl,rfl,by decide+kernel⟩ ?hw ?hc
 case hw=>w_witness2
 case hc=>
  unfold hook
  k_fill
  intro w s₀ s₁ mg mb G Y fa o pm cd doc dV kV ho hd hcd hD hmg hg args vals as hpre hlay hrd hwl hlo
  have KX:=km_in_of Y
  km_tabs Y
  have X:=(Ground.X G).1
  have V:=(Ground.X G).2
  refine Ground.open G ?_
  intro T B D TE TW
  try(refine guard_noD D (by decide+kernel) ?_;clear D)
  have hK9:codeHdIn (K w.params) 213 209=true:=by kernel_rfl
  have hT9:TabsAt ([(213,209)]:List (Addr×Addr)) _:=List.forall_mem_cons.mpr ⟨⟨codeHd_of_K (c:=213) (P:=209) KX hK9,hT8 209 (by k_mem)⟩,fun _ h=>nomatch h⟩
  clear hmg
  wrow_args hpre hlay hrd hwl hlo
  refine enter_call ?_
  w_top on
  kn_posts
  w_call any ho hd hcd hD T F
  clear hd
  kn_ghosts F T
  k_drop
  clear hl Y ho hcd hT8 X V B TE TW hK9 hT9
  rename IntsAre _ _=>hI1
  rename Heap.IsList (ghostOf _ _) _ _=>hsc
  rename CodeHd _ _ _=>hcd1
  rename Below _ _ [] _=>B1
  rename Frag.In _ (ghostOf _ _)=>X1
  rename Top _ _ _ _ _ (ghostOf _ _)=>T1
  rename News _ _ _ _=>N1
  rename Fr _ _ _ _=>F1
  rename (_<Array.size _)=>l209
  have hlen:=hI1.length
  show wpAny (model Pm w) (lawA _ _ _ [] _ fa cd) (execs f22_body (lawEnv s₁.heap.objs.size fa cd)) _ _ _
  refine @law_body13 w _ _ _ _ _ _ _ _ _ _ _ _ _ _ _ _ _ _ _ B1 hcd1 ?hdp ?hun ?hE X1 T1 _ _ _ hsc hI1 ?len _ F1 (lawNews N1) l209 ?ret
  case hdp=>decide
  case hun=>decide
  case hE=>passes_own
  case len=>omega
  case ret=>
   intro h' tk' m' tps news' F N
   refine⟨?_,GrownAt.of N (.head _),trivial⟩
   refine⟨.inl ⟨.bool true,.bool true,[],rfl,fun _=>rfl,.bool _,by first|rfl|wrow_post,fun _=>⟨List.nodup_nil,fun _ h=>(nomatch h)⟩⟩,F.keep,rfl,hg⟩
end Uc
end
set_option tactic.hygienic true
section
namespace Uc
noncomputable def hLife (P:Params):Life:=(boot_heap P).life
noncomputable def ha_12 (P:Params):Obj:=⟨.none,none,(.fields [].toArray),[].toArray⟩
noncomputable def hTa (P:Params):BT:=(.node (boot_o_0 P) (.node (boot_o_1 P) (.node (boot_o_3 P) (.node (boot_o_7 P) .nil .nil) (.node (o11 P) .nil .nil)) (.node (boot_o_5 P) (.node (boot_o_9 P) .nil .nil) (.node (o13 P) .nil .nil))) (.node (boot_o_2 P) (.node (boot_o_4 P) (.node (boot_o_8 P) .nil .nil) (.node (ha_12 P) .nil .nil)) (.node (boot_o_6 P) (.node (boot_o_10 P) .nil .nil) (.node (o14 P) .nil .nil))))
noncomputable def hSa (w:World)(os:OsState):SharedT:=⟨hTa w.params,15,hLife w.params,#[],boot_drawn,187,os⟩
noncomputable def hTb (P:Params):BT:=(.node (boot_o_0 P) (.node (boot_o_1 P) (.node (boot_o_3 P) (.node (boot_o_7 P) .nil .nil) (.node (o11 P) .nil .nil)) (.node (boot_o_5 P) (.node (boot_o_9 P) .nil .nil) (.node (o13 P) .nil .nil))) (.node (boot_o_2 P) (.node (boot_o_4 P) (.node (boot_o_8 P) .nil .nil) (.node (ha_12 P) .nil .nil)) (.node (boot_o_6 P) (.node (boot_o_10 P) .nil .nil) (.node (o14 P) .nil .nil))))
noncomputable def hSb (w:World)(os:OsState):SharedT:=⟨hTb w.params,15,hLife w.params,#[],boot_drawn,187,os⟩
noncomputable def hEnv:Env:={ scope:=Challenge.pw_uc0057_02.main.scope,locals:=mainNs,globals:=mainNs,cells:=[],code:=(.ref 13),frame:=some 14 }
noncomputable def hCode:Code:=.body (behindTheImports Challenge.pw_uc0057_02) hEnv
noncomputable def hAnn:Option Value:=(some (.ref 6))
noncomputable def hFp:Pos:=⟨0,0,0,0⟩
noncomputable def h0_3 (P:Params):Obj:=⟨(.type "dict"),none,(.dict [⟨PyData.keyHash P (ofString "__name__"),(.str (ofString "__name__") 165),(.str (ofString "cpy313.stringprep") 356)⟩,⟨PyData.keyHash P (ofString "__doc__"),(.str (ofString "__doc__") 166),.none⟩,⟨PyData.keyHash P (ofString "__package__"),(.str (ofString "__package__") 167),.none⟩,⟨PyData.keyHash P (ofString "__loader__"),(.str (ofString "__loader__") 168),(.builtin "__main__.__loader__#opaque")⟩,⟨PyData.keyHash P (ofString "__spec__"),(.str (ofString "__spec__") 169),.none⟩,⟨PyData.keyHash P (ofString "__annotations__"),(.str (ofString "__annotations__") 170),(.ref 6)⟩,⟨PyData.keyHash P (ofString "__builtins__"),(.str (ofString "__builtins__") 171),(.ref 4)⟩,⟨PyData.keyHash P (ofString "__file__"),(.str (ofString "__file__") 173),(.str (ofString "/claim/cut.py") 172)⟩,⟨PyData.keyHash P (ofString "__cached__"),(.str (ofString "__cached__") 174),.none⟩,⟨PyData.keyHash P (ofString "_wall"),(.str (ofString "_wall") 193),(.ref 21)⟩,⟨PyData.keyHash P (ofString "Whitespace"),(.str (ofString "Whitespace") 295),(.ref 83)⟩,⟨PyData.keyHash P (ofString "_netrclex"),(.str (ofString "_netrclex") 355),(.ref 125)⟩].toArray 12),[].toArray⟩
noncomputable def h0_12 (P:Params):Obj:=⟨.none,none,(.fields [(.int (1) 0),(.int (0) 0),(.ref 20),(.int (5) 0),(.int (0) 0),(.ref 27),(.int (62) 0),(.int (0) 0),(.ref 93)].toArray),[].toArray⟩
noncomputable def h0_16 (P:Params):Obj:=⟨.none,none,(.fields [].toArray),[].toArray⟩
noncomputable def h0_19 (P:Params):Obj:=⟨.none,none,(.func { name:=(ofString "_wall"),qualname:=(ofString "_wall"),params:=f0_args,body:=.stmts f0_body,scope:=f0_scope,globals:=0,closure:=[],defaults:=.none,kwdefaults:=.none,doc:=.none,pyModule:=.none,annotations:=none,code:=.none,closureTuple:=.none,builtins:=0 }),[].toArray⟩
noncomputable def h0_26 (P:Params):Obj:=⟨.none,none,(.fields [(.int (8) 0),(.int (4) 0),(.ref 37),(.int (31) 0),(.int (4) 0),(.ref 44),(.int (35) 0),(.int (4) 0),(.ref 51),(.int (42) 0),(.int (4) 0),(.ref 58),(.int (45) 0),(.int (4) 0),(.ref 65),(.int (48) 0),(.int (4) 0),(.ref 72),(.int (59) 0),(.int (4) 0),(.ref 79)].toArray),[].toArray⟩
noncomputable def h0_33 (P:Params):Obj:=⟨.none,none,(.fields [].toArray),[].toArray⟩
noncomputable def h0_36 (P:Params):Obj:=⟨.none,none,(.func { name:=(ofString "__init__"),qualname:=(ofString "Whitespace.__init__"),params:=f2m1_args,body:=.stmts f2m1_body,scope:=f2m1_scope,globals:=0,closure:=[],defaults:=.none,kwdefaults:=.none,doc:=.none,pyModule:=.none,annotations:=none,code:=.none,closureTuple:=.none,builtins:=0 }),[].toArray⟩
noncomputable def h0_40 (P:Params):Obj:=⟨.none,none,(.fields [].toArray),[].toArray⟩
noncomputable def h0_43 (P:Params):Obj:=⟨.none,none,(.func { name:=(ofString "longest_run_of_spaces"),qualname:=(ofString "Whitespace.longest_run_of_spaces"),params:=f2m2_args,body:=.stmts f2m2_body,scope:=f2m2_scope,globals:=0,closure:=[],defaults:=.none,kwdefaults:=.none,doc:=.none,pyModule:=.none,annotations:=none,code:=.none,closureTuple:=.none,builtins:=0 }),[].toArray⟩
noncomputable def h0_47 (P:Params):Obj:=⟨.none,none,(.fields [].toArray),[].toArray⟩
noncomputable def h0_50 (P:Params):Obj:=⟨.none,none,(.func { name:=(ofString "indent_level"),qualname:=(ofString "Whitespace.indent_level"),params:=f2m3_args,body:=.stmts f2m3_body,scope:=f2m3_scope,globals:=0,closure:=[],defaults:=.none,kwdefaults:=.none,doc:=.none,pyModule:=.none,annotations:=none,code:=.none,closureTuple:=.none,builtins:=0 }),[].toArray⟩
noncomputable def h0_54 (P:Params):Obj:=⟨.none,none,(.fields [].toArray),[].toArray⟩
noncomputable def h0_57 (P:Params):Obj:=⟨.none,none,(.func { name:=(ofString "equal"),qualname:=(ofString "Whitespace.equal"),params:=f2m4_args,body:=.stmts f2m4_body,scope:=f2m4_scope,globals:=0,closure:=[],defaults:=.none,kwdefaults:=.none,doc:=.none,pyModule:=.none,annotations:=none,code:=.none,closureTuple:=.none,builtins:=0 }),[].toArray⟩
noncomputable def h0_61 (P:Params):Obj:=⟨.none,none,(.fields [].toArray),[].toArray⟩
noncomputable def h0_64 (P:Params):Obj:=⟨.none,none,(.func { name:=(ofString "not_equal_witness"),qualname:=(ofString "Whitespace.not_equal_witness"),params:=f2m5_args,body:=.stmts f2m5_body,scope:=f2m5_scope,globals:=0,closure:=[],defaults:=.none,kwdefaults:=.none,doc:=.none,pyModule:=.none,annotations:=none,code:=.none,closureTuple:=.none,builtins:=0 }),[].toArray⟩
noncomputable def h0_68 (P:Params):Obj:=⟨.none,none,(.fields [].toArray),[].toArray⟩
noncomputable def h0_71 (P:Params):Obj:=⟨.none,none,(.func { name:=(ofString "less"),qualname:=(ofString "Whitespace.less"),params:=f2m6_args,body:=.stmts f2m6_body,scope:=f2m6_scope,globals:=0,closure:=[],defaults:=.none,kwdefaults:=.none,doc:=.none,pyModule:=.none,annotations:=none,code:=.none,closureTuple:=.none,builtins:=0 }),[].toArray⟩
noncomputable def h0_75 (P:Params):Obj:=⟨.none,none,(.fields [].toArray),[].toArray⟩
noncomputable def h0_78 (P:Params):Obj:=⟨.none,none,(.func { name:=(ofString "not_less_witness"),qualname:=(ofString "Whitespace.not_less_witness"),params:=f2m7_args,body:=.stmts f2m7_body,scope:=f2m7_scope,globals:=0,closure:=[],defaults:=.none,kwdefaults:=.none,doc:=.none,pyModule:=.none,annotations:=none,code:=.none,closureTuple:=.none,builtins:=0 }),[].toArray⟩
noncomputable def h0_92 (P:Params):Obj:=⟨.none,none,(.fields [(.int (64) 0),(.int (4) 0),(.ref 100),(.int (70) 0),(.int (4) 0),(.ref 107),(.int (76) 0),(.int (4) 0),(.ref 114),(.int (103) 0),(.int (4) 0),(.ref 121)].toArray),[].toArray⟩
noncomputable def h0_96 (P:Params):Obj:=⟨.none,none,(.fields [].toArray),[].toArray⟩
noncomputable def h0_99 (P:Params):Obj:=⟨.none,none,(.func { name:=(ofString "__init__"),qualname:=(ofString "_netrclex.__init__"),params:=f4m0_args,body:=.stmts f4m0_body,scope:=f4m0_scope,globals:=0,closure:=[],defaults:=.none,kwdefaults:=.none,doc:=.none,pyModule:=.none,annotations:=none,code:=.none,closureTuple:=.none,builtins:=0 }),[].toArray⟩
noncomputable def h0_103 (P:Params):Obj:=⟨.none,none,(.fields [].toArray),[].toArray⟩
noncomputable def h0_106 (P:Params):Obj:=⟨.none,none,(.func { name:=(ofString "_read_char"),qualname:=(ofString "_netrclex._read_char"),params:=f4m1_args,body:=.stmts f4m1_body,scope:=f4m1_scope,globals:=0,closure:=[],defaults:=.none,kwdefaults:=.none,doc:=.none,pyModule:=.none,annotations:=none,code:=.none,closureTuple:=.none,builtins:=0 }),[].toArray⟩
noncomputable def h0_110 (P:Params):Obj:=⟨.none,none,(.fields [].toArray),[].toArray⟩
noncomputable def h0_113 (P:Params):Obj:=⟨.none,none,(.func { name:=(ofString "get_token"),qualname:=(ofString "_netrclex.get_token"),params:=f4m2_args,body:=.stmts f4m2_body,scope:=f4m2_scope,globals:=0,closure:=[],defaults:=.none,kwdefaults:=.none,doc:=.none,pyModule:=.none,annotations:=none,code:=.none,closureTuple:=.none,builtins:=0 }),[].toArray⟩
noncomputable def h0_117 (P:Params):Obj:=⟨.none,none,(.fields [].toArray),[].toArray⟩
noncomputable def h0_120 (P:Params):Obj:=⟨.none,none,(.func { name:=(ofString "push_token"),qualname:=(ofString "_netrclex.push_token"),params:=f4m3_args,body:=.stmts f4m3_body,scope:=f4m3_scope,globals:=0,closure:=[],defaults:=.none,kwdefaults:=.none,doc:=.none,pyModule:=.none,annotations:=none,code:=.none,closureTuple:=.none,builtins:=0 }),[].toArray⟩
noncomputable def hT0 (P:Params):BT:=(.node (boot_o_0 P) (.node (boot_o_1 P) (.node (h0_3 P) (.node (boot_o_7 P) (.node (o15 P) (.node (o31 P) (.node (o63 P) (.node (o127 P) .nil .nil) .nil) (.node (o95 P) .nil .nil)) (.node (h0_47 P) (.node (o79 P) .nil .nil) (.node (o111 P) .nil .nil))) (.node (o23 P) (.node (o39 P) (.node (h0_71 P) .nil .nil) (.node (h0_103 P) .nil .nil)) (.node (o55 P) (.node (o87 P) .nil .nil) (.node (o119 P) .nil .nil)))) (.node (o11 P) (.node (h0_19 P) (.node (o35 P) (.node (o67 P) .nil .nil) (.node (h0_99 P) .nil .nil)) (.node (o51 P) (.node (o83 P) .nil .nil) (.node (o115 P) .nil .nil))) (.node (o27 P) (.node (h0_43 P) (.node (h0_75 P) .nil .nil) (.node (o107 P) .nil .nil)) (.node (o59 P) (.node (o91 P) .nil .nil) (.node (o123 P) .nil .nil))))) (.node (boot_o_5 P) (.node (boot_o_9 P) (.node (o17 P) (.node (h0_33 P) (.node (o65 P) (.node (o129 P) .nil .nil) .nil) (.node (o97 P) .nil .nil)) (.node (o49 P) (.node (o81 P) .nil .nil) (.node (h0_113 P) .nil .nil))) (.node (o25 P) (.node (o41 P) (.node (o73 P) .nil .nil) (.node (o105 P) .nil .nil)) (.node (h0_57 P) (.node (o89 P) .nil .nil) (.node (o121 P) .nil .nil)))) (.node (o13 P) (.node (o21 P) (.node (o37 P) (.node (o69 P) .nil .nil) (.node (o101 P) .nil .nil)) (.node (o53 P) (.node (o85 P) .nil .nil) (.node (h0_117 P) .nil .nil))) (.node (o29 P) (.node (o45 P) (.node (o77 P) .nil .nil) (.node (o109 P) .nil .nil)) (.node (h0_61 P) (.node (o93 P) .nil .nil) (.node (o125 P) .nil .nil)))))) (.node (boot_o_2 P) (.node (boot_o_4 P) (.node (boot_o_8 P) (.node (h0_16 P) (.node (o32 P) (.node (h0_64 P) (.node (o128 P) .nil .nil) .nil) (.node (h0_96 P) .nil .nil)) (.node (o48 P) (.node (o80 P) .nil .nil) (.node (o112 P) .nil .nil))) (.node (o24 P) (.node (h0_40 P) (.node (o72 P) .nil .nil) (.node (o104 P) .nil .nil)) (.node (o56 P) (.node (o88 P) .nil .nil) (.node (h0_120 P) .nil .nil)))) (.node (h0_12 P) (.node (o20 P) (.node (h0_36 P) (.node (h0_68 P) .nil .nil) (.node (o100 P) .nil .nil)) (.node (o52 P) (.node (o84 P) .nil .nil) (.node (o116 P) .nil .nil))) (.node (o28 P) (.node (o44 P) (.node (o76 P) .nil .nil) (.node (o108 P) .nil .nil)) (.node (o60 P) (.node (h0_92 P) .nil .nil) (.node (o124 P) .nil .nil))))) (.node (boot_o_6 P) (.node (boot_o_10 P) (.node (o18 P) (.node (o34 P) (.node (o66 P) .nil .nil) (.node (o98 P) .nil .nil)) (.node (h0_50 P) (.node (o82 P) .nil .nil) (.node (o114 P) .nil .nil))) (.node (h0_26 P) (.node (o42 P) (.node (o74 P) .nil .nil) (.node (h0_106 P) .nil .nil)) (.node (o58 P) (.node (o90 P) .nil .nil) (.node (o122 P) .nil .nil)))) (.node (o14 P) (.node (o22 P) (.node (o38 P) (.node (o70 P) .nil .nil) (.node (o102 P) .nil .nil)) (.node (h0_54 P) (.node (o86 P) .nil .nil) (.node (o118 P) .nil .nil))) (.node (o30 P) (.node (o46 P) (.node (h0_78 P) .nil .nil) (.node (h0_110 P) .nil .nil)) (.node (o62 P) (.node (o94 P) .nil .nil) (.node (o126 P) .nil .nil)))))))
noncomputable def hS0 (w:World)(os:OsState):SharedT:=⟨hT0 w.params,130,hLife w.params,#[],boot_drawn,358,os⟩
noncomputable def hL0:List Stmt:=(Challenge.pw_uc0057_02.main.body.drop 0).take 6
noncomputable def h1_3 (P:Params):Obj:=⟨(.type "dict"),none,(.dict [⟨PyData.keyHash P (ofString "__name__"),(.str (ofString "__name__") 165),(.str (ofString "cpy313.stringprep") 356)⟩,⟨PyData.keyHash P (ofString "__doc__"),(.str (ofString "__doc__") 166),.none⟩,⟨PyData.keyHash P (ofString "__package__"),(.str (ofString "__package__") 167),.none⟩,⟨PyData.keyHash P (ofString "__loader__"),(.str (ofString "__loader__") 168),(.builtin "__main__.__loader__#opaque")⟩,⟨PyData.keyHash P (ofString "__spec__"),(.str (ofString "__spec__") 169),.none⟩,⟨PyData.keyHash P (ofString "__annotations__"),(.str (ofString "__annotations__") 170),(.ref 6)⟩,⟨PyData.keyHash P (ofString "__builtins__"),(.str (ofString "__builtins__") 171),(.ref 4)⟩,⟨PyData.keyHash P (ofString "__file__"),(.str (ofString "__file__") 173),(.str (ofString "/claim/cut.py") 172)⟩,⟨PyData.keyHash P (ofString "__cached__"),(.str (ofString "__cached__") 174),.none⟩,⟨PyData.keyHash P (ofString "_wall"),(.str (ofString "_wall") 193),(.ref 21)⟩,⟨PyData.keyHash P (ofString "Whitespace"),(.str (ofString "Whitespace") 295),(.ref 83)⟩,⟨PyData.keyHash P (ofString "_netrclex"),(.str (ofString "_netrclex") 355),(.ref 125)⟩,⟨PyData.keyHash P (ofString "b1_set"),(.str (ofString "b1_set") 417),(.ref 137)⟩,⟨PyData.keyHash P (ofString "in_table_b1"),(.str (ofString "in_table_b1") 424),(.ref 147)⟩].toArray 14),[].toArray⟩
noncomputable def h1_12 (P:Params):Obj:=⟨.none,none,(.fields [(.int (1) 0),(.int (0) 0),(.ref 20),(.int (5) 0),(.int (0) 0),(.ref 27),(.int (62) 0),(.int (0) 0),(.ref 93),(.int (107) 0),(.int (0) 0),(.ref 146)].toArray),[].toArray⟩
noncomputable def h1_142 (P:Params):Obj:=⟨.none,none,(.fields [].toArray),[].toArray⟩
noncomputable def h1_145 (P:Params):Obj:=⟨.none,none,(.func { name:=(ofString "in_table_b1"),qualname:=(ofString "in_table_b1"),params:=f7_args,body:=.stmts f7_body,scope:=f7_scope,globals:=0,closure:=[],defaults:=.none,kwdefaults:=.none,doc:=.none,pyModule:=.none,annotations:=none,code:=.none,closureTuple:=.none,builtins:=0 }),[].toArray⟩
noncomputable def hT1 (P:Params):BT:=(.node (boot_o_0 P) (.node (boot_o_1 P) (.node (h1_3 P) (.node (boot_o_7 P) (.node (o15 P) (.node (o31 P) (.node (o63 P) (.node (o127 P) .nil .nil) .nil) (.node (o95 P) .nil .nil)) (.node (h0_47 P) (.node (o79 P) (.node (o143 P) .nil .nil) .nil) (.node (o111 P) .nil .nil))) (.node (o23 P) (.node (o39 P) (.node (h0_71 P) (.node (o135 P) .nil .nil) .nil) (.node (h0_103 P) .nil .nil)) (.node (o55 P) (.node (o87 P) .nil .nil) (.node (o119 P) .nil .nil)))) (.node (o11 P) (.node (h0_19 P) (.node (o35 P) (.node (o67 P) (.node (o131 P) .nil .nil) .nil) (.node (h0_99 P) .nil .nil)) (.node (o51 P) (.node (o83 P) (.node (o147 P) .nil .nil) .nil) (.node (o115 P) .nil .nil))) (.node (o27 P) (.node (h0_43 P) (.node (h0_75 P) (.node (o139 P) .nil .nil) .nil) (.node (o107 P) .nil .nil)) (.node (o59 P) (.node (o91 P) .nil .nil) (.node (o123 P) .nil .nil))))) (.node (boot_o_5 P) (.node (boot_o_9 P) (.node (o17 P) (.node (h0_33 P) (.node (o65 P) (.node (o129 P) .nil .nil) .nil) (.node (o97 P) .nil .nil)) (.node (o49 P) (.node (o81 P) (.node (h1_145 P) .nil .nil) .nil) (.node (h0_113 P) .nil .nil))) (.node (o25 P) (.node (o41 P) (.node (o73 P) (.node (o137 P) .nil .nil) .nil) (.node (o105 P) .nil .nil)) (.node (h0_57 P) (.node (o89 P) .nil .nil) (.node (o121 P) .nil .nil)))) (.node (o13 P) (.node (o21 P) (.node (o37 P) (.node (o69 P) (.node (o133 P) .nil .nil) .nil) (.node (o101 P) .nil .nil)) (.node (o53 P) (.node (o85 P) .nil .nil) (.node (h0_117 P) .nil .nil))) (.node (o29 P) (.node (o45 P) (.node (o77 P) (.node (o141 P) .nil .nil) .nil) (.node (o109 P) .nil .nil)) (.node (h0_61 P) (.node (o93 P) .nil .nil) (.node (o125 P) .nil .nil)))))) (.node (boot_o_2 P) (.node (boot_o_4 P) (.node (boot_o_8 P) (.node (h0_16 P) (.node (o32 P) (.node (h0_64 P) (.node (o128 P) .nil .nil) .nil) (.node (h0_96 P) .nil .nil)) (.node (o48 P) (.node (o80 P) (.node (o144 P) .nil .nil) .nil) (.node (o112 P) .nil .nil))) (.node (o24 P) (.node (h0_40 P) (.node (o72 P) (.node (o136 P) .nil .nil) .nil) (.node (o104 P) .nil .nil)) (.node (o56 P) (.node (o88 P) .nil .nil) (.node (h0_120 P) .nil .nil)))) (.node (h1_12 P) (.node (o20 P) (.node (h0_36 P) (.node (h0_68 P) (.node (o132 P) .nil .nil) .nil) (.node (o100 P) .nil .nil)) (.node (o52 P) (.node (o84 P) .nil .nil) (.node (o116 P) .nil .nil))) (.node (o28 P) (.node (o44 P) (.node (o76 P) (.node (o140 P) .nil .nil) .nil) (.node (o108 P) .nil .nil)) (.node (o60 P) (.node (h0_92 P) .nil .nil) (.node (o124 P) .nil .nil))))) (.node (boot_o_6 P) (.node (boot_o_10 P) (.node (o18 P) (.node (o34 P) (.node (o66 P) (.node (o130 P) .nil .nil) .nil) (.node (o98 P) .nil .nil)) (.node (h0_50 P) (.node (o82 P) (.node (o146 P) .nil .nil) .nil) (.node (o114 P) .nil .nil))) (.node (h0_26 P) (.node (o42 P) (.node (o74 P) (.node (o138 P) .nil .nil) .nil) (.node (h0_106 P) .nil .nil)) (.node (o58 P) (.node (o90 P) .nil .nil) (.node (o122 P) .nil .nil)))) (.node (o14 P) (.node (o22 P) (.node (o38 P) (.node (o70 P) (.node (o134 P) .nil .nil) .nil) (.node (o102 P) .nil .nil)) (.node (h0_54 P) (.node (o86 P) .nil .nil) (.node (o118 P) .nil .nil))) (.node (o30 P) (.node (o46 P) (.node (h0_78 P) (.node (h1_142 P) .nil .nil) .nil) (.node (h0_110 P) .nil .nil)) (.node (o62 P) (.node (o94 P) .nil .nil) (.node (o126 P) .nil .nil)))))))
noncomputable def hS1 (w:World)(os:OsState):SharedT:=⟨hT1 w.params,148,hLife w.params,#[],boot_drawn,425,os⟩
noncomputable def hL1:List Stmt:=(Challenge.pw_uc0057_02.main.body.drop 6).take 2
noncomputable def h2_3 (P:Params):Obj:=⟨(.type "dict"),none,(.dict [⟨PyData.keyHash P (ofString "__name__"),(.str (ofString "__name__") 165),(.str (ofString "cpy313.stringprep") 356)⟩,⟨PyData.keyHash P (ofString "__doc__"),(.str (ofString "__doc__") 166),.none⟩,⟨PyData.keyHash P (ofString "__package__"),(.str (ofString "__package__") 167),.none⟩,⟨PyData.keyHash P (ofString "__loader__"),(.str (ofString "__loader__") 168),(.builtin "__main__.__loader__#opaque")⟩,⟨PyData.keyHash P (ofString "__spec__"),(.str (ofString "__spec__") 169),.none⟩,⟨PyData.keyHash P (ofString "__annotations__"),(.str (ofString "__annotations__") 170),(.ref 6)⟩,⟨PyData.keyHash P (ofString "__builtins__"),(.str (ofString "__builtins__") 171),(.ref 4)⟩,⟨PyData.keyHash P (ofString "__file__"),(.str (ofString "__file__") 173),(.str (ofString "/claim/cut.py") 172)⟩,⟨PyData.keyHash P (ofString "__cached__"),(.str (ofString "__cached__") 174),.none⟩,⟨PyData.keyHash P (ofString "_wall"),(.str (ofString "_wall") 193),(.ref 21)⟩,⟨PyData.keyHash P (ofString "Whitespace"),(.str (ofString "Whitespace") 295),(.ref 83)⟩,⟨PyData.keyHash P (ofString "_netrclex"),(.str (ofString "_netrclex") 355),(.ref 125)⟩,⟨PyData.keyHash P (ofString "b1_set"),(.str (ofString "b1_set") 417),(.ref 137)⟩,⟨PyData.keyHash P (ofString "in_table_b1"),(.str (ofString "in_table_b1") 424),(.ref 147)⟩,⟨PyData.keyHash P (ofString "b3_exceptions"),(.str (ofString "b3_exceptions") 2375),(.ref 148)⟩].toArray 15),[].toArray⟩
noncomputable def ht149:Obj:=⟨.type "dict",none,.dict (((tabFrom 0 tabKeys tabVals).drop 17).take 17).toArray 17,[].toArray⟩
noncomputable def ht150:Obj:=⟨.type "dict",none,.dict (((tabFrom 0 tabKeys tabVals).drop 34).take 17).toArray 17,[].toArray⟩
noncomputable def ht151:Obj:=⟨.type "dict",none,.dict (((tabFrom 0 tabKeys tabVals).drop 51).take 17).toArray 17,[].toArray⟩
noncomputable def ht152:Obj:=⟨.type "dict",none,.dict (((tabFrom 0 tabKeys tabVals).drop 68).take 17).toArray 17,[].toArray⟩
noncomputable def ht153:Obj:=⟨.type "dict",none,.dict (((tabFrom 0 tabKeys tabVals).drop 85).take 17).toArray 17,[].toArray⟩
noncomputable def ht154:Obj:=⟨.type "dict",none,.dict (((tabFrom 0 tabKeys tabVals).drop 102).take 17).toArray 17,[].toArray⟩
noncomputable def ht155:Obj:=⟨.type "dict",none,.dict (((tabFrom 0 tabKeys tabVals).drop 119).take 17).toArray 17,[].toArray⟩
noncomputable def ht156:Obj:=⟨.type "dict",none,.dict (((tabFrom 0 tabKeys tabVals).drop 136).take 17).toArray 17,[].toArray⟩
noncomputable def ht157:Obj:=⟨.type "dict",none,.dict (((tabFrom 0 tabKeys tabVals).drop 153).take 17).toArray 17,[].toArray⟩
noncomputable def ht158:Obj:=⟨.type "dict",none,.dict (((tabFrom 0 tabKeys tabVals).drop 170).take 17).toArray 17,[].toArray⟩
noncomputable def ht159:Obj:=⟨.type "dict",none,.dict (((tabFrom 0 tabKeys tabVals).drop 187).take 17).toArray 17,[].toArray⟩
noncomputable def ht160:Obj:=⟨.type "dict",none,.dict (((tabFrom 0 tabKeys tabVals).drop 204).take 17).toArray 17,[].toArray⟩
noncomputable def ht161:Obj:=⟨.type "dict",none,.dict (((tabFrom 0 tabKeys tabVals).drop 221).take 17).toArray 17,[].toArray⟩
noncomputable def ht162:Obj:=⟨.type "dict",none,.dict (((tabFrom 0 tabKeys tabVals).drop 238).take 17).toArray 17,[].toArray⟩
noncomputable def ht163:Obj:=⟨.type "dict",none,.dict (((tabFrom 0 tabKeys tabVals).drop 255).take 17).toArray 17,[].toArray⟩
noncomputable def ht164:Obj:=⟨.type "dict",none,.dict (((tabFrom 0 tabKeys tabVals).drop 272).take 17).toArray 17,[].toArray⟩
noncomputable def ht165:Obj:=⟨.type "dict",none,.dict (((tabFrom 0 tabKeys tabVals).drop 289).take 17).toArray 17,[].toArray⟩
noncomputable def ht166:Obj:=⟨.type "dict",none,.dict (((tabFrom 0 tabKeys tabVals).drop 306).take 17).toArray 17,[].toArray⟩
noncomputable def ht167:Obj:=⟨.type "dict",none,.dict (((tabFrom 0 tabKeys tabVals).drop 323).take 17).toArray 17,[].toArray⟩
noncomputable def ht168:Obj:=⟨.type "dict",none,.dict (((tabFrom 0 tabKeys tabVals).drop 340).take 17).toArray 17,[].toArray⟩
noncomputable def ht169:Obj:=⟨.type "dict",none,.dict (((tabFrom 0 tabKeys tabVals).drop 357).take 17).toArray 17,[].toArray⟩
noncomputable def ht170:Obj:=⟨.type "dict",none,.dict (((tabFrom 0 tabKeys tabVals).drop 374).take 17).toArray 17,[].toArray⟩
noncomputable def ht171:Obj:=⟨.type "dict",none,.dict (((tabFrom 0 tabKeys tabVals).drop 391).take 17).toArray 17,[].toArray⟩
noncomputable def ht172:Obj:=⟨.type "dict",none,.dict (((tabFrom 0 tabKeys tabVals).drop 408).take 17).toArray 17,[].toArray⟩
noncomputable def ht173:Obj:=⟨.type "dict",none,.dict (((tabFrom 0 tabKeys tabVals).drop 425).take 17).toArray 17,[].toArray⟩
noncomputable def ht174:Obj:=⟨.type "dict",none,.dict (((tabFrom 0 tabKeys tabVals).drop 442).take 17).toArray 17,[].toArray⟩
noncomputable def ht175:Obj:=⟨.type "dict",none,.dict (((tabFrom 0 tabKeys tabVals).drop 459).take 17).toArray 17,[].toArray⟩
noncomputable def ht176:Obj:=⟨.type "dict",none,.dict (((tabFrom 0 tabKeys tabVals).drop 476).take 17).toArray 17,[].toArray⟩
noncomputable def ht177:Obj:=⟨.type "dict",none,.dict (((tabFrom 0 tabKeys tabVals).drop 493).take 17).toArray 17,[].toArray⟩
noncomputable def ht178:Obj:=⟨.type "dict",none,.dict (((tabFrom 0 tabKeys tabVals).drop 510).take 17).toArray 17,[].toArray⟩
noncomputable def ht179:Obj:=⟨.type "dict",none,.dict (((tabFrom 0 tabKeys tabVals).drop 527).take 17).toArray 17,[].toArray⟩
noncomputable def ht180:Obj:=⟨.type "dict",none,.dict (((tabFrom 0 tabKeys tabVals).drop 544).take 17).toArray 17,[].toArray⟩
noncomputable def ht181:Obj:=⟨.type "dict",none,.dict (((tabFrom 0 tabKeys tabVals).drop 561).take 17).toArray 17,[].toArray⟩
noncomputable def ht182:Obj:=⟨.type "dict",none,.dict (((tabFrom 0 tabKeys tabVals).drop 578).take 17).toArray 17,[].toArray⟩
noncomputable def ht183:Obj:=⟨.type "dict",none,.dict (((tabFrom 0 tabKeys tabVals).drop 595).take 17).toArray 17,[].toArray⟩
noncomputable def ht184:Obj:=⟨.type "dict",none,.dict (((tabFrom 0 tabKeys tabVals).drop 612).take 17).toArray 17,[].toArray⟩
noncomputable def ht185:Obj:=⟨.type "dict",none,.dict (((tabFrom 0 tabKeys tabVals).drop 629).take 17).toArray 17,[].toArray⟩
noncomputable def ht186:Obj:=⟨.type "dict",none,.dict (((tabFrom 0 tabKeys tabVals).drop 646).take 4).toArray 4,[].toArray⟩
noncomputable def hT2 (P:Params):BT:=(.node (boot_o_0 P) (.node (boot_o_1 P) (.node (h2_3 P) (.node (boot_o_7 P) (.node (o15 P) (.node (o31 P) (.node (o63 P) (.node (o127 P) .nil .nil) .nil) (.node (o95 P) (.node ht159 .nil .nil) .nil)) (.node (h0_47 P) (.node (o79 P) (.node (o143 P) .nil .nil) .nil) (.node (o111 P) (.node ht175 .nil .nil) .nil))) (.node (o23 P) (.node (o39 P) (.node (h0_71 P) (.node (o135 P) .nil .nil) .nil) (.node (h0_103 P) (.node ht167 .nil .nil) .nil)) (.node (o55 P) (.node (o87 P) (.node ht151 .nil .nil) .nil) (.node (o119 P) (.node ht183 .nil .nil) .nil)))) (.node (o11 P) (.node (h0_19 P) (.node (o35 P) (.node (o67 P) (.node (o131 P) .nil .nil) .nil) (.node (h0_99 P) (.node ht163 .nil .nil) .nil)) (.node (o51 P) (.node (o83 P) (.node (o147 P) .nil .nil) .nil) (.node (o115 P) (.node ht179 .nil .nil) .nil))) (.node (o27 P) (.node (h0_43 P) (.node (h0_75 P) (.node (o139 P) .nil .nil) .nil) (.node (o107 P) (.node ht171 .nil .nil) .nil)) (.node (o59 P) (.node (o91 P) (.node ht155 .nil .nil) .nil) (.node (o123 P) .nil .nil))))) (.node (boot_o_5 P) (.node (boot_o_9 P) (.node (o17 P) (.node (h0_33 P) (.node (o65 P) (.node (o129 P) .nil .nil) .nil) (.node (o97 P) (.node ht161 .nil .nil) .nil)) (.node (o49 P) (.node (o81 P) (.node (h1_145 P) .nil .nil) .nil) (.node (h0_113 P) (.node ht177 .nil .nil) .nil))) (.node (o25 P) (.node (o41 P) (.node (o73 P) (.node (o137 P) .nil .nil) .nil) (.node (o105 P) (.node ht169 .nil .nil) .nil)) (.node (h0_57 P) (.node (o89 P) (.node ht153 .nil .nil) .nil) (.node (o121 P) (.node ht185 .nil .nil) .nil)))) (.node (o13 P) (.node (o21 P) (.node (o37 P) (.node (o69 P) (.node (o133 P) .nil .nil) .nil) (.node (o101 P) (.node ht165 .nil .nil) .nil)) (.node (o53 P) (.node (o85 P) (.node ht149 .nil .nil) .nil) (.node (h0_117 P) (.node ht181 .nil .nil) .nil))) (.node (o29 P) (.node (o45 P) (.node (o77 P) (.node (o141 P) .nil .nil) .nil) (.node (o109 P) (.node ht173 .nil .nil) .nil)) (.node (h0_61 P) (.node (o93 P) (.node ht157 .nil .nil) .nil) (.node (o125 P) .nil .nil)))))) (.node (boot_o_2 P) (.node (boot_o_4 P) (.node (boot_o_8 P) (.node (h0_16 P) (.node (o32 P) (.node (h0_64 P) (.node (o128 P) .nil .nil) .nil) (.node (h0_96 P) (.node ht160 .nil .nil) .nil)) (.node (o48 P) (.node (o80 P) (.node (o144 P) .nil .nil) .nil) (.node (o112 P) (.node ht176 .nil .nil) .nil))) (.node (o24 P) (.node (h0_40 P) (.node (o72 P) (.node (o136 P) .nil .nil) .nil) (.node (o104 P) (.node ht168 .nil .nil) .nil)) (.node (o56 P) (.node (o88 P) (.node ht152 .nil .nil) .nil) (.node (h0_120 P) (.node ht184 .nil .nil) .nil)))) (.node (h1_12 P) (.node (o20 P) (.node (h0_36 P) (.node (h0_68 P) (.node (o132 P) .nil .nil) .nil) (.node (o100 P) (.node ht164 .nil .nil) .nil)) (.node (o52 P) (.node (o84 P) (.node (o148 P) .nil .nil) .nil) (.node (o116 P) (.node ht180 .nil .nil) .nil))) (.node (o28 P) (.node (o44 P) (.node (o76 P) (.node (o140 P) .nil .nil) .nil) (.node (o108 P) (.node ht172 .nil .nil) .nil)) (.node (o60 P) (.node (h0_92 P) (.node ht156 .nil .nil) .nil) (.node (o124 P) .nil .nil))))) (.node (boot_o_6 P) (.node (boot_o_10 P) (.node (o18 P) (.node (o34 P) (.node (o66 P) (.node (o130 P) .nil .nil) .nil) (.node (o98 P) (.node ht162 .nil .nil) .nil)) (.node (h0_50 P) (.node (o82 P) (.node (o146 P) .nil .nil) .nil) (.node (o114 P) (.node ht178 .nil .nil) .nil))) (.node (h0_26 P) (.node (o42 P) (.node (o74 P) (.node (o138 P) .nil .nil) .nil) (.node (h0_106 P) (.node ht170 .nil .nil) .nil)) (.node (o58 P) (.node (o90 P) (.node ht154 .nil .nil) .nil) (.node (o122 P) (.node ht186 .nil .nil) .nil)))) (.node (o14 P) (.node (o22 P) (.node (o38 P) (.node (o70 P) (.node (o134 P) .nil .nil) .nil) (.node (o102 P) (.node ht166 .nil .nil) .nil)) (.node (h0_54 P) (.node (o86 P) (.node ht150 .nil .nil) .nil) (.node (o118 P) (.node ht182 .nil .nil) .nil))) (.node (o30 P) (.node (o46 P) (.node (h0_78 P) (.node (h1_142 P) .nil .nil) .nil) (.node (h0_110 P) (.node ht174 .nil .nil) .nil)) (.node (o62 P) (.node (o94 P) (.node ht158 .nil .nil) .nil) (.node (o126 P) .nil .nil)))))))
noncomputable def hS2 (w:World)(os:OsState):SharedT:=⟨hT2 w.params,187,hLife w.params,#[],boot_drawn,2376,os⟩
noncomputable def hTd (P:Params):BT:=(.node (boot_o_0 P) (.node (boot_o_1 P) (.node (h1_3 P) (.node (boot_o_7 P) (.node (o15 P) (.node (o31 P) (.node (o63 P) (.node (o127 P) .nil .nil) .nil) (.node (o95 P) (.node ht159 .nil .nil) .nil)) (.node (h0_47 P) (.node (o79 P) (.node (o143 P) .nil .nil) .nil) (.node (o111 P) (.node ht175 .nil .nil) .nil))) (.node (o23 P) (.node (o39 P) (.node (h0_71 P) (.node (o135 P) .nil .nil) .nil) (.node (h0_103 P) (.node ht167 .nil .nil) .nil)) (.node (o55 P) (.node (o87 P) (.node ht151 .nil .nil) .nil) (.node (o119 P) (.node ht183 .nil .nil) .nil)))) (.node (o11 P) (.node (h0_19 P) (.node (o35 P) (.node (o67 P) (.node (o131 P) .nil .nil) .nil) (.node (h0_99 P) (.node ht163 .nil .nil) .nil)) (.node (o51 P) (.node (o83 P) (.node (o147 P) .nil .nil) .nil) (.node (o115 P) (.node ht179 .nil .nil) .nil))) (.node (o27 P) (.node (h0_43 P) (.node (h0_75 P) (.node (o139 P) .nil .nil) .nil) (.node (o107 P) (.node ht171 .nil .nil) .nil)) (.node (o59 P) (.node (o91 P) (.node ht155 .nil .nil) .nil) (.node (o123 P) .nil .nil))))) (.node (boot_o_5 P) (.node (boot_o_9 P) (.node (o17 P) (.node (h0_33 P) (.node (o65 P) (.node (o129 P) .nil .nil) .nil) (.node (o97 P) (.node ht161 .nil .nil) .nil)) (.node (o49 P) (.node (o81 P) (.node (h1_145 P) .nil .nil) .nil) (.node (h0_113 P) (.node ht177 .nil .nil) .nil))) (.node (o25 P) (.node (o41 P) (.node (o73 P) (.node (o137 P) .nil .nil) .nil) (.node (o105 P) (.node ht169 .nil .nil) .nil)) (.node (h0_57 P) (.node (o89 P) (.node ht153 .nil .nil) .nil) (.node (o121 P) (.node ht185 .nil .nil) .nil)))) (.node (o13 P) (.node (o21 P) (.node (o37 P) (.node (o69 P) (.node (o133 P) .nil .nil) .nil) (.node (o101 P) (.node ht165 .nil .nil) .nil)) (.node (o53 P) (.node (o85 P) (.node ht149 .nil .nil) .nil) (.node (h0_117 P) (.node ht181 .nil .nil) .nil))) (.node (o29 P) (.node (o45 P) (.node (o77 P) (.node (o141 P) .nil .nil) .nil) (.node (o109 P) (.node ht173 .nil .nil) .nil)) (.node (h0_61 P) (.node (o93 P) (.node ht157 .nil .nil) .nil) (.node (o125 P) .nil .nil)))))) (.node (boot_o_2 P) (.node (boot_o_4 P) (.node (boot_o_8 P) (.node (h0_16 P) (.node (o32 P) (.node (h0_64 P) (.node (o128 P) .nil .nil) .nil) (.node (h0_96 P) (.node ht160 .nil .nil) .nil)) (.node (o48 P) (.node (o80 P) (.node (o144 P) .nil .nil) .nil) (.node (o112 P) (.node ht176 .nil .nil) .nil))) (.node (o24 P) (.node (h0_40 P) (.node (o72 P) (.node (o136 P) .nil .nil) .nil) (.node (o104 P) (.node ht168 .nil .nil) .nil)) (.node (o56 P) (.node (o88 P) (.node ht152 .nil .nil) .nil) (.node (h0_120 P) (.node ht184 .nil .nil) .nil)))) (.node (h1_12 P) (.node (o20 P) (.node (h0_36 P) (.node (h0_68 P) (.node (o132 P) .nil .nil) .nil) (.node (o100 P) (.node ht164 .nil .nil) .nil)) (.node (o52 P) (.node (o84 P) (.node (o148 P) .nil .nil) .nil) (.node (o116 P) (.node ht180 .nil .nil) .nil))) (.node (o28 P) (.node (o44 P) (.node (o76 P) (.node (o140 P) .nil .nil) .nil) (.node (o108 P) (.node ht172 .nil .nil) .nil)) (.node (o60 P) (.node (h0_92 P) (.node ht156 .nil .nil) .nil) (.node (o124 P) .nil .nil))))) (.node (boot_o_6 P) (.node (boot_o_10 P) (.node (o18 P) (.node (o34 P) (.node (o66 P) (.node (o130 P) .nil .nil) .nil) (.node (o98 P) (.node ht162 .nil .nil) .nil)) (.node (h0_50 P) (.node (o82 P) (.node (o146 P) .nil .nil) .nil) (.node (o114 P) (.node ht178 .nil .nil) .nil))) (.node (h0_26 P) (.node (o42 P) (.node (o74 P) (.node (o138 P) .nil .nil) .nil) (.node (h0_106 P) (.node ht170 .nil .nil) .nil)) (.node (o58 P) (.node (o90 P) (.node ht154 .nil .nil) .nil) (.node (o122 P) (.node ht186 .nil .nil) .nil)))) (.node (o14 P) (.node (o22 P) (.node (o38 P) (.node (o70 P) (.node (o134 P) .nil .nil) .nil) (.node (o102 P) (.node ht166 .nil .nil) .nil)) (.node (h0_54 P) (.node (o86 P) (.node ht150 .nil .nil) .nil) (.node (o118 P) (.node ht182 .nil .nil) .nil))) (.node (o30 P) (.node (o46 P) (.node (h0_78 P) (.node (h1_142 P) .nil .nil) .nil) (.node (h0_110 P) (.node ht174 .nil .nil) .nil)) (.node (o62 P) (.node (o94 P) (.node ht158 .nil .nil) .nil) (.node (o126 P) .nil .nil)))))))
noncomputable def tabTg:List Expr:=match tabS with| .Assign t _ _=>t|_=>[]
noncomputable def tabP:Pos:=match tabS with| .Assign _ (.Dict _ _ p) _=>p|_=>⟨0,0,0,0⟩
noncomputable def tabP0:Pos:=match tabS with| .Assign _ _ p=>p|_=>⟨0,0,0,0⟩
noncomputable def hL2:List Stmt:=(Challenge.pw_uc0057_02.main.body.drop 8).take 1
noncomputable def h3_12 (P:Params):Obj:=⟨.none,none,(.fields [(.int (1) 0),(.int (0) 0),(.ref 20),(.int (5) 0),(.int (0) 0),(.ref 27),(.int (62) 0),(.int (0) 0),(.ref 93),(.int (107) 0),(.int (0) 0),(.ref 146),(.int (110) 0),(.int (0) 0),(.ref 192),(.int (119) 0),(.int (0) 0),(.ref 199),(.int (125) 0),(.int (0) 0),(.ref 206),(.int (164) 0),(.int (0) 0),(.ref 213),(.int (169) 0),(.int (0) 0),(.ref 220),(.int (184) 0),(.int (0) 0),(.ref 225),(.int (190) 0),(.int (0) 0),(.ref 232),(.int (195) 0),(.int (0) 0),(.ref 237),(.int (206) 0),(.int (0) 0),(.ref 242)].toArray),[].toArray⟩
noncomputable def h3_188 (P:Params):Obj:=⟨.none,none,(.fields [].toArray),[].toArray⟩
noncomputable def h3_191 (P:Params):Obj:=⟨.none,none,(.func { name:=(ofString "map_table_b3"),qualname:=(ofString "map_table_b3"),params:=f9_args,body:=.stmts f9_body,scope:=f9_scope,globals:=0,closure:=[],defaults:=.none,kwdefaults:=.none,doc:=.none,pyModule:=.none,annotations:=none,code:=.none,closureTuple:=.none,builtins:=0 }),[].toArray⟩
noncomputable def h3_195 (P:Params):Obj:=⟨.none,none,(.fields [].toArray),[].toArray⟩
noncomputable def h3_198 (P:Params):Obj:=⟨.none,none,(.func { name:=(ofString "_substitution_cost"),qualname:=(ofString "_substitution_cost"),params:=f14_args,body:=.stmts f14_body,scope:=f14_scope,globals:=0,closure:=[],defaults:=.none,kwdefaults:=.none,doc:=.none,pyModule:=.none,annotations:=none,code:=.none,closureTuple:=.none,builtins:=0 }),[].toArray⟩
noncomputable def h3_202 (P:Params):Obj:=⟨.none,none,(.fields [].toArray),[].toArray⟩
noncomputable def h3_205 (P:Params):Obj:=⟨.none,none,(.func { name:=(ofString "_levenshtein_distance"),qualname:=(ofString "_levenshtein_distance"),params:=f15_args,body:=.stmts f15_body,scope:=f15_scope,globals:=0,closure:=[],defaults:=.none,kwdefaults:=.none,doc:=.none,pyModule:=.none,annotations:=none,code:=.none,closureTuple:=.none,builtins:=0 }),[].toArray⟩
noncomputable def h3_209 (P:Params):Obj:=⟨.none,none,(.fields [].toArray),[].toArray⟩
noncomputable def h3_212 (P:Params):Obj:=⟨.none,none,(.func { name:=(ofString "_law_lexer"),qualname:=(ofString "_law_lexer"),params:=f17_args,body:=.stmts f17_body,scope:=f17_scope,globals:=0,closure:=[],defaults:=.none,kwdefaults:=.none,doc:=.none,pyModule:=.none,annotations:=none,code:=.none,closureTuple:=.none,builtins:=0 }),[].toArray⟩
noncomputable def h3_216 (P:Params):Obj:=⟨.none,none,(.fields [].toArray),[].toArray⟩
noncomputable def h3_219 (P:Params):Obj:=⟨.none,none,(.func { name:=(ofString "_law_typed"),qualname:=(ofString "_law_typed"),params:=f18_args,body:=.stmts f18_body,scope:=f18_scope,globals:=0,closure:=[],defaults:=.none,kwdefaults:=.none,doc:=.none,pyModule:=.none,annotations:=none,code:=.none,closureTuple:=.none,builtins:=0 }),[].toArray⟩
noncomputable def h3_223 (P:Params):Obj:=⟨.none,none,(.fields [].toArray),[].toArray⟩
noncomputable def h3_224 (P:Params):Obj:=⟨.none,none,(.func { name:=(ofString "_law_spelled"),qualname:=(ofString "_law_spelled"),params:=f19_args,body:=.stmts f19_body,scope:=f19_scope,globals:=0,closure:=[],defaults:=.none,kwdefaults:=.none,doc:=.none,pyModule:=.none,annotations:=none,code:=.none,closureTuple:=.none,builtins:=0 }),[].toArray⟩
noncomputable def h3_228 (P:Params):Obj:=⟨.none,none,(.fields [].toArray),[].toArray⟩
noncomputable def h3_231 (P:Params):Obj:=⟨.none,none,(.func { name:=(ofString "_law_column"),qualname:=(ofString "_law_column"),params:=f20_args,body:=.stmts f20_body,scope:=f20_scope,globals:=0,closure:=[],defaults:=.none,kwdefaults:=.none,doc:=.none,pyModule:=.none,annotations:=none,code:=.none,closureTuple:=.none,builtins:=0 }),[].toArray⟩
noncomputable def h3_235 (P:Params):Obj:=⟨.none,none,(.fields [].toArray),[].toArray⟩
noncomputable def h3_236 (P:Params):Obj:=⟨.none,none,(.func { name:=(ofString "_law_page"),qualname:=(ofString "_law_page"),params:=f21_args,body:=.stmts f21_body,scope:=f21_scope,globals:=0,closure:=[],defaults:=.none,kwdefaults:=.none,doc:=.none,pyModule:=.none,annotations:=none,code:=.none,closureTuple:=.none,builtins:=0 }),[].toArray⟩
noncomputable def h3_240 (P:Params):Obj:=⟨.none,none,(.fields [].toArray),[].toArray⟩
noncomputable def h3_241 (P:Params):Obj:=⟨.none,none,(.func { name:=(ofString "law"),qualname:=(ofString "law"),params:=f22_args,body:=.stmts f22_body,scope:=f22_scope,globals:=0,closure:=[],defaults:=.none,kwdefaults:=.none,doc:=.none,pyModule:=.none,annotations:=none,code:=.none,closureTuple:=.none,builtins:=0 }),[].toArray⟩
noncomputable def hT3 (P:Params):BT:=(.node (boot_o_0 P) (.node (boot_o_1 P) (.node (o3 P) (.node (boot_o_7 P) (.node (o15 P) (.node (o31 P) (.node (o63 P) (.node (o127 P) .nil .nil) (.node (h3_191 P) .nil .nil)) (.node (o95 P) (.node ht159 .nil .nil) (.node (h3_223 P) .nil .nil))) (.node (h0_47 P) (.node (o79 P) (.node (o143 P) .nil .nil) (.node (o207 P) .nil .nil)) (.node (o111 P) (.node ht175 .nil .nil) (.node (o239 P) .nil .nil)))) (.node (o23 P) (.node (o39 P) (.node (h0_71 P) (.node (o135 P) .nil .nil) (.node (o199 P) .nil .nil)) (.node (h0_103 P) (.node ht167 .nil .nil) (.node (h3_231 P) .nil .nil))) (.node (o55 P) (.node (o87 P) (.node ht151 .nil .nil) (.node (o215 P) .nil .nil)) (.node (o119 P) (.node ht183 .nil .nil) .nil)))) (.node (o11 P) (.node (h0_19 P) (.node (o35 P) (.node (o67 P) (.node (o131 P) .nil .nil) (.node (h3_195 P) .nil .nil)) (.node (h0_99 P) (.node ht163 .nil .nil) (.node (o227 P) .nil .nil))) (.node (o51 P) (.node (o83 P) (.node (o147 P) .nil .nil) (.node (o211 P) .nil .nil)) (.node (o115 P) (.node ht179 .nil .nil) (.node (o243 P) .nil .nil)))) (.node (o27 P) (.node (h0_43 P) (.node (h0_75 P) (.node (o139 P) .nil .nil) (.node (o203 P) .nil .nil)) (.node (o107 P) (.node ht171 .nil .nil) (.node (h3_235 P) .nil .nil))) (.node (o59 P) (.node (o91 P) (.node ht155 .nil .nil) (.node (h3_219 P) .nil .nil)) (.node (o123 P) (.node (o187 P) .nil .nil) .nil))))) (.node (boot_o_5 P) (.node (boot_o_9 P) (.node (o17 P) (.node (h0_33 P) (.node (o65 P) (.node (o129 P) .nil .nil) (.node (o193 P) .nil .nil)) (.node (o97 P) (.node ht161 .nil .nil) (.node (o225 P) .nil .nil))) (.node (o49 P) (.node (o81 P) (.node (h1_145 P) .nil .nil) (.node (h3_209 P) .nil .nil)) (.node (h0_113 P) (.node ht177 .nil .nil) (.node (h3_241 P) .nil .nil)))) (.node (o25 P) (.node (o41 P) (.node (o73 P) (.node (o137 P) .nil .nil) (.node (o201 P) .nil .nil)) (.node (o105 P) (.node ht169 .nil .nil) (.node (o233 P) .nil .nil))) (.node (h0_57 P) (.node (o89 P) (.node ht153 .nil .nil) (.node (o217 P) .nil .nil)) (.node (o121 P) (.node ht185 .nil .nil) .nil)))) (.node (o13 P) (.node (o21 P) (.node (o37 P) (.node (o69 P) (.node (o133 P) .nil .nil) (.node (o197 P) .nil .nil)) (.node (o101 P) (.node ht165 .nil .nil) (.node (o229 P) .nil .nil))) (.node (o53 P) (.node (o85 P) (.node ht149 .nil .nil) (.node (o213 P) .nil .nil)) (.node (h0_117 P) (.node ht181 .nil .nil) .nil))) (.node (o29 P) (.node (o45 P) (.node (o77 P) (.node (o141 P) .nil .nil) (.node (h3_205 P) .nil .nil)) (.node (o109 P) (.node ht173 .nil .nil) (.node (o237 P) .nil .nil))) (.node (h0_61 P) (.node (o93 P) (.node ht157 .nil .nil) (.node (o221 P) .nil .nil)) (.node (o125 P) (.node (o189 P) .nil .nil) .nil)))))) (.node (boot_o_2 P) (.node (boot_o_4 P) (.node (boot_o_8 P) (.node (h0_16 P) (.node (o32 P) (.node (h0_64 P) (.node (o128 P) .nil .nil) (.node (o192 P) .nil .nil)) (.node (h0_96 P) (.node ht160 .nil .nil) (.node (h3_224 P) .nil .nil))) (.node (o48 P) (.node (o80 P) (.node (o144 P) .nil .nil) (.node (o208 P) .nil .nil)) (.node (o112 P) (.node ht176 .nil .nil) (.node (h3_240 P) .nil .nil)))) (.node (o24 P) (.node (h0_40 P) (.node (o72 P) (.node (o136 P) .nil .nil) (.node (o200 P) .nil .nil)) (.node (o104 P) (.node ht168 .nil .nil) (.node (o232 P) .nil .nil))) (.node (o56 P) (.node (o88 P) (.node ht152 .nil .nil) (.node (h3_216 P) .nil .nil)) (.node (h0_120 P) (.node ht184 .nil .nil) .nil)))) (.node (h3_12 P) (.node (o20 P) (.node (h0_36 P) (.node (h0_68 P) (.node (o132 P) .nil .nil) (.node (o196 P) .nil .nil)) (.node (o100 P) (.node ht164 .nil .nil) (.node (h3_228 P) .nil .nil))) (.node (o52 P) (.node (o84 P) (.node (o148 P) .nil .nil) (.node (h3_212 P) .nil .nil)) (.node (o116 P) (.node ht180 .nil .nil) .nil))) (.node (o28 P) (.node (o44 P) (.node (o76 P) (.node (o140 P) .nil .nil) (.node (o204 P) .nil .nil)) (.node (o108 P) (.node ht172 .nil .nil) (.node (h3_236 P) .nil .nil))) (.node (o60 P) (.node (h0_92 P) (.node ht156 .nil .nil) (.node (o220 P) .nil .nil)) (.node (o124 P) (.node (h3_188 P) .nil .nil) .nil))))) (.node (boot_o_6 P) (.node (boot_o_10 P) (.node (o18 P) (.node (o34 P) (.node (o66 P) (.node (o130 P) .nil .nil) (.node (o194 P) .nil .nil)) (.node (o98 P) (.node ht162 .nil .nil) (.node (o226 P) .nil .nil))) (.node (h0_50 P) (.node (o82 P) (.node (o146 P) .nil .nil) (.node (o210 P) .nil .nil)) (.node (o114 P) (.node ht178 .nil .nil) (.node (o242 P) .nil .nil)))) (.node (h0_26 P) (.node (o42 P) (.node (o74 P) (.node (o138 P) .nil .nil) (.node (h3_202 P) .nil .nil)) (.node (h0_106 P) (.node ht170 .nil .nil) (.node (o234 P) .nil .nil))) (.node (o58 P) (.node (o90 P) (.node ht154 .nil .nil) (.node (o218 P) .nil .nil)) (.node (o122 P) (.node ht186 .nil .nil) .nil)))) (.node (o14 P) (.node (o22 P) (.node (o38 P) (.node (o70 P) (.node (o134 P) .nil .nil) (.node (h3_198 P) .nil .nil)) (.node (o102 P) (.node ht166 .nil .nil) (.node (o230 P) .nil .nil))) (.node (h0_54 P) (.node (o86 P) (.node ht150 .nil .nil) (.node (o214 P) .nil .nil)) (.node (o118 P) (.node ht182 .nil .nil) .nil))) (.node (o30 P) (.node (o46 P) (.node (h0_78 P) (.node (h1_142 P) .nil .nil) (.node (o206 P) .nil .nil)) (.node (h0_110 P) (.node ht174 .nil .nil) (.node (o238 P) .nil .nil))) (.node (o62 P) (.node (o94 P) (.node ht158 .nil .nil) (.node (o222 P) .nil .nil)) (.node (o126 P) (.node (o190 P) .nil .nil) .nil)))))))
noncomputable def hS3 (w:World)(os:OsState):SharedT:=⟨hT3 w.params,244,hLife w.params,#[],boot_drawn,2472,os⟩
noncomputable def hL3:List Stmt:=(Challenge.pw_uc0057_02.main.body.drop 9).take 14
end Uc
end
section
namespace Uc
/-! exact runs:the tree x,at the top,goes in n steps from the heap h (k tokens drawn,standing at q) to h' with the value a -/
theorem segGo_add {tb:String->Option Builtin}{p:Program}{w:World}{n₀:Nat}{ann:Option Value}{b:Nat}:∀{n m:Nat} {s s' s'':Shared} {t t' t'':Thread},segGo tb p w n₀ ann b n s t=some (s',t')->
  segGo tb p w n₀ ann b m s' t'=some (s'',t'')->segGo tb p w n₀ ann b (n+m) s t=some (s'',t'')
 |0,m,s,s',s'',t,t',t'',h,k=>by
  obtain⟨rfl,rfl⟩:s=s'/\t=t':=by simpa [segGo] using h
  rw[Nat.zero_add];exact k
 |n+1,m,s,s',s'',t,t',t'',h,k=>by
  rw[show n+1+m=n+m+1 by(walk_at "O")]
  unfold segGo at h ⊢
  cases he:endAt b t with
  |some f=>rw[he] at h;cases h
  |none=>
   rw[he] at h
   cases hk:stepOk n₀ ann t with
   |false=>rw[hk] at h;cases h
   |true=>
    rw[hk] at h
    cases hs:step (denote tb) p w s t with
    |halt o s₂=>rw[hs] at h;cases h
    |go s₂ t₂=>rw[hs] at h;exact segGo_add h k
section
variable {w:World}{gens:Array GenState}{drawn:Drawn}{os:OsState}
noncomputable def Ru (w:World)(gens:Array GenState)(drawn:Drawn)(os:OsState){α:Type}(x:Sem α)(h:Heap)(k:Nat)(q:Pos)(n:Nat)(a:α)(h':Heap)(k':Nat)(q':Pos):Prop:=
 ∀(K:α->Sem Fin) (H:Value->Sem Fin) (gd:Bool->Bool) (lv:List Value->List Value),
  segGo treeTable Challenge.pw_uc0057_02 w 11 hAnn 1 n ⟨h,gens,drawn,k,os⟩ ⟨x.wrap K H gd lv,hCode,q,[topFrame hFp]⟩=some (⟨h',gens,drawn,k',os⟩,⟨K a,hCode,q',[topFrame hFp]⟩)
theorem Ru.pure {α:Type}{a:α}{h:Heap}{k:Nat}{q:Pos}:Ru w gens drawn os (.pure a) h k q 0 a h k q:=fun _ _ _ _=>rfl
theorem Ru.pure' {α:Type}{a:α}{h:Heap}{k:Nat}{q:Pos}:Ru w gens drawn os (Pure.pure a) h k q 0 a h k q:=fun _ _ _ _=>rfl
theorem Ru.bind {α β:Type}{x:Sem α}{f:α->Sem β}{a:α}{b:β}{h h1 h2:Heap}{k k1 k2:Nat}{q q1 q2:Pos}{n m:Nat}(r1:Ru w gens drawn os x h k q n a h1 k1 q1)(r2:Ru w gens drawn os (f a) h1 k1 q1 m b h2 k2 q2):Ru w gens drawn os (x>>=f) h k q (n+m) b h2 k2 q2:=fun K H gd lv=>by
 rw[Sem.bind_eq_wrap',Sem.wrap_wrap]
 exact segGo_add (r1 _ _ _ _) (r2 K H gd lv)
theorem Ru.keep {α:Type}{x:Sem α}{vs:List Value}{a:α}{h h1:Heap}{k k1:Nat}{q q1:Pos}{n:Nat}(r:Ru w gens drawn os x h k q n a h1 k1 q1):Ru w gens drawn os (x.keep vs) h k q n a h1 k1 q1:=fun K H gd lv=>by
 rw[Sem.keep_eq_wrap,Sem.wrap_wrap]
 exact r _ _ _ _
theorem Ru.holding {α:Type}{x:Sem α}{vs:List Value}{a:α}{h h1:Heap}{k k1:Nat}{q q1:Pos}{n:Nat}(r:Ru w gens drawn os x h k q n a h1 k1 q1):Ru w gens drawn os (holding vs x) h k q n a h1 k1 q1:=by
 unfold PySem.holding
 split
 ·exact r
 ·exact r.keep
theorem Ru.onRaise {α:Type}{x:Sem α}{f:Value->Sem Unit}{a:α}{h h1:Heap}{k k1:Nat}{q q1:Pos}{n:Nat}(r:Ru w gens drawn os x h k q n a h1 k1 q1):Ru w gens drawn os (x.onRaise f) h k q n a h1 k1 q1:=fun K H gd lv=>by
 rw[Sem.onRaise_eq_wrap,Sem.wrap_wrap]
 exact r _ _ _ _
theorem Ru.rule {t:String}{h:Heap}{k:Nat}{q:Pos}:Ru w gens drawn os (PySem.rule t) h k q 1 () h k q:=fun _ _ _ _=>rfl
theorem Ru.standAt {p:Pos}{h:Heap}{k:Nat}{q:Pos}:Ru w gens drawn os (standAt p) h k q 1 () h k p:=fun _ _ _ _=>rfl
theorem Ru.fresh {h:Heap}{k:Nat}{q:Pos}:Ru w gens drawn os fresh h k q 1 k h (k+1) q:=fun _ _ _ _=>rfl
theorem Ru.alloc {o:Obj}{h:Heap}{k:Nat}{q:Pos}:Ru w gens drawn os (alloc o) h k q 1 h.objs.size (h.push o) k q:=fun _ _ _ _=>rfl
theorem Ru.loadPart {a:Addr}{p:Option Value}{o:Obj}{h:Heap}{k:Nat}{q:Pos}(e:h.get? a=some o):Ru w gens drawn os (loadPart a p) h k q 1 o h k q:=fun K H gd lv=>by
 show(match step _ _ _ _ _ with| .go s' t'=>_| .halt _ _=>none)=_
 simp only[PySem.loadPart,Sem.wrap,step,e]
 rfl
theorem Ru.updatePart {a:Addr}{p:Option Value}{f:Obj->Obj}{o:Obj}{h:Heap}{k:Nat}{q:Pos}(l:Nat.ble 11 a=true)(e:h.get? a=some o):Ru w gens drawn os (updatePart a p f) h k q 1 () (h.update a f) k q:=fun K H gd lv=>by
 have ok:stepOk 11 hAnn (⟨(PySem.updatePart a p f).wrap K H gd lv,hCode,q,[topFrame hFp]⟩:Thread)=true:=by
  show(Thread.calm _&&(Nat.ble 11 a||a==mainNs||a==cStatics||hAnn==some (.ref a)))=true
  rw[l]
  rfl
 unfold segGo
 rw[ok]
 show(match step _ _ _ _ _ with| .go s' t'=>_| .halt _ _=>none)=_
 simp only[PySem.updatePart,Sem.wrap,step,e,Option.isSome_some,if_true]
 rfl
end
end Uc
end
section
namespace Uc
noncomputable def Heap.puts (h:Heap)(a:Addr)(o:Obj):Heap:=h.update a fun _=>o
theorem puts_puts (h:Heap)(a:Addr)(o o':Obj):Heap.puts (Heap.puts h a o) a o'=Heap.puts h a o':=by
 obtain⟨objs,life⟩:=h
 simp only[Heap.puts,Heap.update,Heap.mk.injEq,and_true]
 apply Array.ext_getElem?
 intro i
 simp only[Array.getElem?_modify]
 by_cases h1:a=i
 ·subst h1;simp only[if_true,Option.map_map];rfl
 ·simp only[if_neg h1]
theorem puts_push (h:Heap)(o o':Obj):Heap.puts (h.push o) h.objs.size o'=h.push o':=by
 obtain⟨objs,life⟩:=h
 simp only[Heap.puts,Heap.update,Heap.push,Heap.mk.injEq,and_true]
 apply Array.ext_getElem?
 intro i
 simp only[Array.getElem?_modify,Array.getElem?_push]
 by_cases h1:objs.size=i
 ·subst h1;simp
 ·simp[h1,Ne.symm h1]
theorem puts_push_ne (h:Heap){a:Addr}(o o':Obj)(ha:a≠h.objs.size):Heap.puts (h.push o) a o'=(Heap.puts h a o').push o:=Heap.update_push h a _ o ha
theorem puts_size (h:Heap)(a:Addr)(o:Obj):(Heap.puts h a o).objs.size=h.objs.size:=Heap.size_update h a _
theorem puts_get {h:Heap}{a:Addr}{o o':Obj}(e:h.get? a=some o)(hf:o'.isFreed=false):(Heap.puts h a o').get? a=some o':=Heap.get?_update_self (fun _=>o') e hf
theorem puts_get_ne {h:Heap}{a b:Addr}{o':Obj}(hab:a≠b):(Heap.puts h a o').get? b=h.get? b:=Heap.get?_update_other h _ hab
theorem update_puts {h:Heap}{a:Addr}{f:Obj->Obj}{o o':Obj}(e:h.get? a=some o)(hf:f o=o'):h.update a f=Heap.puts h a o':=by
 obtain⟨e1,_⟩:=Heap.get?_some_iff.mp e
 obtain⟨objs,life⟩:=h
 simp only[Heap.puts,Heap.update,Heap.mk.injEq,and_true] at e1 ⊢
 apply Array.ext_getElem?
 intro i
 simp only[Array.getElem?_modify]
 by_cases h1:a=i
 ·subst h1;simp only[if_true,e1,Option.map_some,hf]
 ·simp only[if_neg h1]
section
variable {w:World}{gens:Array GenState}{drawn:Drawn}{os:OsState}
noncomputable abbrev dObj (es:List DictEntry)(ep:Nat):Obj:=⟨.type "dict",none,.dict es.toArray ep,[].toArray⟩
theorem Ru.dictEntries {a:Addr}{p:Option Value}{es:List DictEntry}{ep:Nat}{h:Heap}{k:Nat}{q:Pos}(e:h.get? a=some (dObj es ep)):Ru w gens drawn os (dictEntries a p) h k q 1 es.toArray h k q:=
 Ru.bind (n:=1) (m:=0) (Ru.loadPart e) Ru.pure
theorem Ru.dictEpoch {a:Addr}{p:Option Value}{es:List DictEntry}{ep:Nat}{h:Heap}{k:Nat}{q:Pos}(e:h.get? a=some (dObj es ep)):Ru w gens drawn os (dictEpoch a p) h k q 1 ep h k q:=
 Ru.bind (n:=1) (m:=0) (Ru.loadPart e) Ru.pure
theorem places_none {es:List DictEntry}{i:Int}(hn:∀e∈es,e.hash≠i):placesWithHash es.toArray.size (fun j=>es.toArray[j]?.map (·.hash)) i=[]:=by
 unfold placesWithHash
 rw[List.filter_eq_nil_iff]
 intro j _
 show ¬ (Option.map (fun x=>x.hash) es.toArray[j]? ==some i)=true
 rw[List.getElem?_toArray]
 cases e:es[j]? with
 |none=>simp
 |some x=>
  have:=hn x (List.mem_of_getElem? e)
  simp only[Option.map_some,beq_iff_eq,Option.some.injEq]
  exact this
theorem Ru.dictFind {a:Addr}{es:List DictEntry}{ep:Nat}{i:Int}{t:Tok}{h:Heap}{k:Nat}{q:Pos}(e:h.get? a=some (dObj es ep))(hn:∀e∈es,e.hash≠i):Ru w gens drawn os (dictFind a (.int i t) i) h k q 1 none h k q:=by
 refine Ru.holding ?_
 refine Ru.bind (n:=1) (m:=0) (Ru.dictEntries e) ?_
 (try dsimp only)
 rw[places_none hn]
 exact Ru.pure
theorem Ru.putKey {a:Addr}{p:Option Value}{es:List DictEntry}{ep:Nat}{x:DictEntry}{h:Heap}{k:Nat}{q:Pos}(l:Nat.ble 11 a=true)(e:h.get? a=some (dObj es ep))(hl:es.length<100000):
  Ru w gens drawn os (updateDictKeys a (·.push x) p) h k q 3 () (Heap.puts h a (dObj (es++[x]) (ep+1))) k q:=by
 have hf:(Obj.mapDictKeys (·.push x)) (dObj es ep)=dObj (es++[x]) (ep+1):=by
  show(⟨_,_,.dict (es.toArray.push x) (ep+1),_⟩:Obj)=_
  rw[List.push_toArray]
 refine Ru.bind (n:=1) (m:=2) (Ru.loadPart e) ?_
 refine Ru.bind (n:=1) (m:=1) (Ru.updatePart l e) ?_
 rw[update_puts e hf]
 refine Ru.bind (n:=1) (m:=0) (Ru.loadPart (puts_get e rfl)) ?_
 have:(dObj (es++[x]) (ep+1)).data.pastItsLine=none:=by
  show(if (es++[x]).toArray.size>sizeLine+1 then some "dict:memory" else none)=none
  rw[if_neg]
  rw[List.size_toArray,List.length_append,List.length_singleton]
  unfold sizeLine
  (walk_at "O")
 rw[this]
 exact Ru.pure
theorem ru_hash {i:Int}{t:Tok}{h:Heap}{k:Nat}{q:Pos}(h0:0<=i)(h1:i<2^32):Ru w gens drawn os (pyHash (.int i t)) h k q 5 i h (k+1) q:=by
 have e:pyHashByItsType.reduced i=(Pure.pure i:Sem Int):=by
  unfold pyHashByItsType.reduced
  rw[if_pos (by simp only[Bool.and_eq_true,decide_eq_true_eq];(walk_at "O")),if_neg (by simp only[beq_iff_eq];(walk_at "O"))]
 have key:∀(w:World) (K:Int->Sem Fin) (H:Value->Sem Fin) (gd:Bool->Bool) (lv:List Value->List Value),
  PySem.W.Fast.tw3277212676724774461 PySem.W.Fast.tw14364793385576792824 Challenge.pw_uc0057_02 w 11 hAnn 1 5 ⟨h,gens,drawn,k,os⟩ ⟨(PySem.W.Fast.tw10540108854288196387 (.int i t)).wrap K H gd lv,hCode,q,[topFrame hFp]⟩=some (⟨h,gens,drawn,k+1,os⟩,⟨(pyHashByItsType.reduced (rawHash i)).wrap K H gd lv,hCode,q,[topFrame hFp]⟩):=byRow2 "special-get-raises" (fun w K H gd lv=>by kernel_rfl) (fun w K H gd lv=>by kernel_rfl)
 intro K H gd lv
 have:=key w K H gd lv
 have hr:rawHash i=i:=by
  unfold rawHash
  (try dsimp only)
  have:((i.natAbs:Int)%((2^61-1:Nat):Int))=i:=by(walk_at "O")
  have hneg:¬ i<0:=by(walk_at "O")
  have h1:¬ (i== -1)=true:=by rw[beq_iff_eq];(walk_at "O")
  rw[this]
  simp only[if_neg hneg,if_neg h1]
 rw[<-PySem.W.Fast.te3277212676724774461, <-PySem.W.Fast.te14364793385576792824, <-PySem.W.Fast.te10540108854288196387,hr,e] at this
 exact this
theorem Ru.dictSet {a:Addr}{es:List DictEntry}{ep:Nat}{i:Int}{t:Tok}{v:Value}{h:Heap}{k:Nat}{q:Pos}(h0:0<=i)(h1:i<2^32)(l:Nat.ble 11 a=true)(e:h.get? a=some (dObj es ep))(hn:∀e∈es,e.hash≠i)(hl:es.length<100000):
  Ru w gens drawn os (dictSet a (.int i t) v) h k q 10 () (Heap.puts h a (dObj (es++[⟨i,.int i t,v⟩]) (ep+1))) (k+1) q:=by
 refine Ru.holding ?_
 refine Ru.bind (n:=5) (m:=5) (ru_hash h0 h1) ?_
 refine Ru.holding ?_
 refine Ru.bind (n:=1) (m:=4) (Ru.dictFind e hn) ?_
 refine Ru.bind (n:=1) (m:=3) Ru.rule ?_
 exact Ru.putKey l e hl
theorem Ru.dictPut {a:Addr}{es:List DictEntry}{ep:Nat}{i:Int}{t:Tok}{v:Value}{h:Heap}{k:Nat}{q:Pos}(l:Nat.ble 11 a=true)(e:h.get? a=some (dObj es ep))(hn:∀e∈es,e.hash≠i)(hl:es.length<100000):
  Ru w gens drawn os (dictPut a i (.int i t) v) h k q 4 () (Heap.puts h a (dObj (es++[⟨i,.int i t,v⟩]) (ep+1))) k q:=by
 refine Ru.bind (n:=1) (m:=3) (Ru.dictFind e hn) ?_
 exact Ru.putKey l e hl
end
end Uc
end
section
namespace Uc
section
variable {w:World}{gens:Array GenState}{drawn:Drawn}{os:OsState}
theorem ru_forIn {β:Type}{q:Pos}{n:Nat}{body:β->PUnit->Sem (ForInStep PUnit)}(l:List β):∀(hs:Nat->Heap) (ks:Nat->Nat) (N:Nat),
  (∀j x,l[j]? =some x->Ru w gens drawn os (body x ⟨⟩) (hs j) (ks j) q n (.yield ⟨⟩) (hs (j+1)) (ks (j+1)) q)->N=l.length*n->Ru w gens drawn os (forIn l ⟨⟩ body) (hs 0) (ks 0) q N ⟨⟩ (hs l.length) (ks l.length) q:=by
 induction l with
 |nil=>
  intro hs ks N _ hN
  obtain rfl:N=0:=by rw[hN,List.length_nil,Nat.zero_mul]
  exact Ru.pure'
 |cons x l ih=>
  intro hs ks N h hN
  rw[List.forIn_cons]
  obtain rfl:N=n+l.length*n:=by rw[hN,List.length_cons,Nat.succ_mul,Nat.add_comm]
  refine Ru.bind (h 0 x rfl) ?_
  exact ih (fun j=>hs (j+1)) (fun j=>ks (j+1)) _ (fun j x hx=>h (j+1) x hx) rfl
structure IsPair (q:Pos) (p:Sem Value×Sem Value) (x:Int×Str):Prop where
 key:∀{w gens drawn os h k},Ru w gens drawn os p.1 h k q 1 (.int x.1 k) h (k+1) q
 val:∀{w gens drawn os h k},Ru w gens drawn os p.2 h k q 2 (.str x.2 k) h (k+1) q
inductive PairsAre (q:Pos):List (Sem Value×Sem Value)->List (Int×Str)->Prop
 |nil:PairsAre q [] []
 |cons {p x ps xs}:IsPair q p x->PairsAre q ps xs->PairsAre q (p::ps) (x::xs)
theorem PairsAre.length {q:Pos}{ps:List (Sem Value×Sem Value)}{xs:List (Int×Str)}(h:PairsAre q ps xs):ps.length=xs.length:=by
 induction h with
 |nil=>rfl
 |cons _ _ ih=>rw[List.length_cons,List.length_cons,ih]
theorem pairs_get {q:Pos}{ps:List (Sem Value×Sem Value)}{xs:List (Int×Str)}(h:PairsAre q ps xs):∀{j:Nat} {p:Sem Value×Sem Value},ps[j]? =some p->∃x,xs[j]? =some x/\IsPair q p x:=by
 induction h with
 |nil=>intro j p e;rw[List.getElem?_nil] at e;cases e
 |cons a _ ih=>
  intro j p e
  cases j with
  |zero=>cases e;exact⟨_,rfl,a⟩
  |succ j=>exact ih e
noncomputable def Asc:Int->List (Int×Str)->Prop
 |_,[]=>True
 |lo,x::xs=>lo<x.1/\x.1<2^32/\Asc x.1 xs
noncomputable def entL:Nat->List (Int×Str)->List DictEntry
 |_,[]=>[]
 |k,x::xs=>⟨x.1,.int x.1 k,.str x.2 (k+1)⟩::entL (k+3) xs
noncomputable def entS:Nat->List (Int×Str)->List DictEntry
 |_,[]=>[]
 |k,x::xs=>⟨x.1,.int x.1 k,.str x.2 (k+1)⟩::entS (k+2) xs
theorem entL_length:∀(k:Nat) (xs:List (Int×Str)),(entL k xs).length=xs.length
 |_,[]=>rfl
 |k,_::xs=>congrArg (· +1) (entL_length (k+3) xs)
theorem entS_length:∀(k:Nat) (xs:List (Int×Str)),(entS k xs).length=xs.length
 |_,[]=>rfl
 |k,_::xs=>congrArg (· +1) (entS_length (k+2) xs)
theorem Asc.at:∀{xs:List (Int×Str)} {lo:Int} {j:Nat} {x:Int×Str},Asc lo xs->xs[j]? =some x->lo<x.1/\x.1<2^32/\∀i y,i<j->xs[i]? =some y->y.1<x.1
 | [],_,_,_,_,e=>by rw[List.getElem?_nil] at e;cases e
 |a::xs,lo,0,x,h,e=>by
  cases e
  exact⟨h.1,h.2.1,fun i _ hi=>absurd hi (Nat.not_lt_zero _)⟩
 |a::xs,lo,j+1,x,h,e=>by
  have ih:=Asc.at h.2.2 (show xs[j]? =some x from e)
  refine⟨Int.lt_trans h.1 ih.1,ih.2.1,fun i y hi ey=>?_⟩
  cases i with
  |zero=>cases ey;exact ih.1
  |succ i=>exact ih.2.2 i y (by(walk_at "O")) ey
theorem entL_at:∀{xs:List (Int×Str)} {k j:Nat} {x:Int×Str},xs[j]? =some x->(entL k xs)[j]? =some ⟨x.1,.int x.1 (k+3*j),.str x.2 (k+3*j+1)⟩
 | [],_,_,_,e=>by rw[List.getElem?_nil] at e;cases e
 |a::xs,k,0,x,e=>by cases e;rfl
 |a::xs,k,j+1,x,e=>by
  show(entL (k+3) xs)[j]? =_
  rw[entL_at (show xs[j]? =some x from e),show k+3+3*j=k+3*(j+1) by(walk_at "O")]
theorem entS_at:∀{xs:List (Int×Str)} {k j:Nat} {x:Int×Str},xs[j]? =some x->(entS k xs)[j]? =some ⟨x.1,.int x.1 (k+2*j),.str x.2 (k+2*j+1)⟩
 | [],_,_,_,e=>by rw[List.getElem?_nil] at e;cases e
 |a::xs,k,0,x,e=>by cases e;rfl
 |a::xs,k,j+1,x,e=>by
  show(entS (k+2) xs)[j]? =_
  rw[entS_at (show xs[j]? =some x from e),show k+2+2*j=k+2*(j+1) by(walk_at "O")]
theorem take_snoc {α:Type}{l:List α}{j:Nat}{x:α}(e:l[j]? =some x):l.take (j+1)=l.take j++[x]:=by
 rw[List.take_add_one,e];rfl
theorem hash_le {es:List DictEntry}{xs:List (Int×Str)}(hl:es.length=xs.length)(he:∀(j:Nat) (x:Int×Str),xs[j]? =some x->∃e,es[j]? =some e/\e.hash=x.1){j:Nat}{i:Int}(hi:∀(a:Nat) (y:Int×Str),a<j->xs[a]? =some y->y.1<i):∀e∈es.take j,e.hash≠i:=by
 intro e h
 obtain⟨a,ha⟩:=List.getElem?_of_mem h
 rw[List.getElem?_take] at ha
 by_cases haj:a<j
 ·rw[if_pos haj] at ha
  have hlt:a<xs.length:=by rw[<-hl];exact(List.getElem?_eq_some_iff.mp ha).1
  obtain⟨e',he',hh⟩:=he a xs[a] (List.getElem?_eq_getElem hlt)
  rw[ha] at he'
  cases he'
  have:=hi a _ haj (List.getElem?_eq_getElem hlt)
  (walk_at "O")
 ·rw[if_neg haj] at ha;cases ha
theorem ru_subLong {q:Pos}{ps:List (Sem Value×Sem Value)}{xs:List (Int×Str)}{h:Heap}{k:Nat}(hp:PairsAre q ps xs)(ha:Asc (-1) xs)(h15:¬ ps.length<=15)(hl:xs.length<100000)(l0:11<=h.objs.size):
  Ru w gens drawn os (subDict ps) h k q (2+xs.length*13) h.objs.size (h.push (dObj (entL k xs) xs.length)) (k+3*xs.length) q:=by
 have l:Nat.ble 11 h.objs.size=true:=Nat.ble_eq_true_of_le l0
 rw[show 2+xs.length*13=1+(1+(xs.length*13+0)) by(walk_at "O")]
 refine Ru.bind Ru.alloc ?_
 refine Ru.bind (a:=()) (n:=1+(xs.length*13+0)) (m:=0) (Ru.holding ?_) Ru.pure'
 rw[if_neg h15]
 refine Ru.bind Ru.rule ?_
 have G:(h.push { cls:=.type "dict",data:=.dict #[] }).get? h.objs.size=some (dObj [] 0):=Heap.get?_push_size h rfl
 have e0:h.push { cls:=.type "dict",data:=.dict #[] }=Heap.puts (h.push { cls:=.type "dict",data:=.dict #[] }) h.objs.size (dObj ((entL k xs).take 0) 0):=by
  rw[puts_push];rfl
 have eN:h.push (dObj (entL k xs) xs.length)=Heap.puts (h.push { cls:=.type "dict",data:=.dict #[] }) h.objs.size (dObj ((entL k xs).take ps.length) ps.length):=by
  rw[puts_push,hp.length,List.take_of_length_le (by rw[entL_length];exact Nat.le_refl _)]
 rw[eN, <-hp.length]
 generalize h.push { cls:=.type "dict",data:=.dict #[] }=h₁ at G e0 ⊢
 rw[e0,puts_puts]
 have key:=ru_forIn (w:=w) (gens:=gens) (drawn:=drawn) (os:=os) (q:=q) (n:=13) (body:=fun(x:Sem Value×Sem Value) (_:PUnit)=>(do
   let kv<-x.1
   let vv<-holding [kv] x.2
   holding [kv,vv] (dictSet h.objs.size kv vv)
   pure (ForInStep.yield PUnit.unit):Sem (ForInStep PUnit))) ps
  (fun j=>Heap.puts h₁ h.objs.size (dObj ((entL k xs).take j) j)) (fun j=>k+3*j) (ps.length*13) (fun j p ep=>by
   obtain⟨x,ex,hx⟩:=pairs_get hp ep
   have hA:=ha.at ex
   have hj:j<xs.length:=(List.getElem?_eq_some_iff.mp ex).1
   refine Ru.bind (n:=1) (m:=12) hx.key ?_
   refine Ru.bind (n:=2) (m:=10) (Ru.holding hx.val) ?_
   refine Ru.bind (n:=10) (m:=0) (Ru.holding (Ru.dictSet (by(walk_at "O")) hA.2.1 l (puts_get G rfl) (hash_le (entL_length k xs) (fun a y ey=>⟨_,entL_at ey,rfl⟩) hA.2.2) (by rw[List.length_take,entL_length];(walk_at "O")))) ?_
   rw[puts_puts,take_snoc (entL_at ex)]
   exact Ru.pure') rfl
 refine Ru.bind (a:=PUnit.unit) (n:=ps.length*13) (m:=0) ?_ Ru.pure'
 exact key
end
end Uc
end
section
namespace Uc
section
variable {w:World}{gens:Array GenState}{drawn:Drawn}{os:OsState}
noncomputable def valS:Nat->List (Int×Str)->List (Value×Value)
 |_,[]=>[]
 |k,x::xs=>(.int x.1 k,.str x.2 (k+1))::valS (k+2) xs
theorem valS_length:∀(k:Nat) (xs:List (Int×Str)),(valS k xs).length=xs.length
 |_,[]=>rfl
 |k,_::xs=>congrArg (· +1) (valS_length (k+2) xs)
theorem valS_at:∀{xs:List (Int×Str)} {k j:Nat} {v:Value×Value},(valS k xs)[j]? =some v->∃x,xs[j]? =some x/\v=(.int x.1 (k+2*j),.str x.2 (k+2*j+1))
 | [],k,j,v,e=>by replace e:([]:List (Value×Value))[j]? =some v:=e;rw[List.getElem?_nil] at e;cases e
 |a::xs,k,0,x,e=>by cases e;exact⟨a,rfl,rfl⟩
 |a::xs,k,j+1,x,e=>by
  obtain⟨y,h1,h2⟩:=valS_at (xs:=xs) (k:=k+2) (j:=j) (v:=x) e
  exact⟨y,h1,by rw[h2,show k+2+2*j=k+2*(j+1) by(walk_at "O")]⟩
theorem ru_evalPairs {q:Pos}{h:Heap}{ps:List (Sem Value×Sem Value)}{xs:List (Int×Str)}{k:Nat}(hp:PairsAre q ps xs):
  Ru w gens drawn os (evalPairs ps) h k q (xs.length*3) (valS k xs) h (k+2*xs.length) q:=by
 induction hp generalizing k with
 |nil=>exact Ru.pure'
 |@cons p x ps xs a b ih=>
  rw[List.length_cons,show(xs.length+1)*3=1+(2+(xs.length*3+0)) by(walk_at "O"),show k+2*(xs.length+1)=k+1+1+2*xs.length by(walk_at "O")]
  refine Ru.bind a.key ?_
  refine Ru.bind (Ru.holding a.val) ?_
  exact Ru.bind (Ru.holding ih) Ru.pure'
theorem ru_subShort {q:Pos}{ps:List (Sem Value×Sem Value)}{xs:List (Int×Str)}{h:Heap}{k:Nat}(hp:PairsAre q ps xs)(ha:Asc (-1) xs)(h15:ps.length<=15)(hl:xs.length<100000)(l0:11<=h.objs.size):
  Ru w gens drawn os (subDict ps) h k q (1+xs.length*13) h.objs.size (h.push (dObj (entS k xs) xs.length)) (k+3*xs.length) q:=by
 have l:Nat.ble 11 h.objs.size=true:=Nat.ble_eq_true_of_le l0
 rw[show 1+xs.length*13=1+(xs.length*3+(xs.length*10+0)) by(walk_at "O")]
 refine Ru.bind Ru.alloc ?_
 refine Ru.bind (a:=()) (n:=xs.length*3+(xs.length*10+0)) (m:=0) (Ru.holding ?_) Ru.pure'
 rw[if_pos h15]
 refine Ru.bind (ru_evalPairs hp) ?_
 refine Ru.holding ?_
 have G:(h.push { cls:=.type "dict",data:=.dict #[] }).get? h.objs.size=some (dObj [] 0):=Heap.get?_push_size h rfl
 have e0:h.push { cls:=.type "dict",data:=.dict #[] }=Heap.puts (h.push { cls:=.type "dict",data:=.dict #[] }) h.objs.size (dObj ((entS k xs).take 0) 0):=by
  rw[puts_push];rfl
 have eN:h.push (dObj (entS k xs) xs.length)=Heap.puts (h.push { cls:=.type "dict",data:=.dict #[] }) h.objs.size (dObj ((entS k xs).take xs.length) xs.length):=by
  rw[puts_push,List.take_of_length_le (by rw[entS_length];exact Nat.le_refl _)]
 rw[eN]
 generalize h.push { cls:=.type "dict",data:=.dict #[] }=h₁ at G e0 ⊢
 rw[e0,puts_puts]
 have key:=ru_forIn (w:=w) (gens:=gens) (drawn:=drawn) (os:=os) (q:=q) (n:=10) (body:=fun(x:Value×Value) (_:PUnit)=>(do
   dictSet h.objs.size x.1 x.2
   pure (ForInStep.yield PUnit.unit):Sem (ForInStep PUnit))) (valS k xs)
  (fun j=>Heap.puts h₁ h.objs.size (dObj ((entS k xs).take j) j)) (fun j=>k+2*xs.length+j) (xs.length*10) (fun j p ep=>by
   obtain⟨x,ex,rfl⟩:=valS_at ep
   have hA:=ha.at ex
   have hj:j<xs.length:=(List.getElem?_eq_some_iff.mp ex).1
   refine Ru.bind (n:=10) (m:=0) (Ru.dictSet (by(walk_at "O")) hA.2.1 l (puts_get G rfl) (hash_le (entS_length k xs) (fun a y ey=>⟨_,entS_at ey,rfl⟩) hA.2.2) (by rw[List.length_take,entS_length];(walk_at "O"))) ?_
   rw[puts_puts,take_snoc (entS_at ex)]
   exact Ru.pure') (by rw[valS_length])
 rw[valS_length,show k+2*xs.length+xs.length=k+3*xs.length by(walk_at "O")] at key
 exact Ru.bind (a:=PUnit.unit) (n:=xs.length*10) (m:=0) key Ru.pure'
theorem dict_is:isSubtype (.type "dict") (.type "dict")=(pure true:Sem Bool):=by kernel_rfl
theorem dict_iter:typeLookup (.type "dict") (ofString "__iter__")=(pure (some (.builtin "dict.__iter__")):Sem (Option Value)):=by kernel_rfl
theorem Ru.from {α:Type}{x:Sem α}{a:α}{h h0 h1:Heap}{k k1:Nat}{q q1:Pos}{n:Nat}(e:h=h0)(r:Ru w gens drawn os x h0 k q n a h1 k1 q1):Ru w gens drawn os x h k q n a h1 k1 q1:=e▸r
theorem ru_merge {q:Pos}{d a:Addr}{es new:List DictEntry}{ep en:Nat}{h:Heap}{k:Nat}(l:Nat.ble 11 d=true)(hd:h.get? d=some (dObj es ep))(ha:h.get? a=some (dObj new en))(hda:d≠a)(hne:es≠[])(hs:(a==sysModules)=false)
  (hk:∀(j:Nat) (e:DictEntry),new[j]? =some e->(∃i t,e.key=.int i t/\e.hash=i)/\(∀x∈es,x.hash≠e.hash)/\∀(i:Nat) (x:DictEntry),i<j->new[i]? =some x->x.hash≠e.hash) (hl:es.length+new.length<100000):
  Ru w gens drawn os (mergeMapping d (.ref a) false) h k q (5+new.length*6) () (Heap.puts h d (dObj (es++new) (ep+new.length))) k q:=by
 rw[show 5+new.length*6=1+(1+(0+(1+(1+(1+(new.length*6+0)))))) by(walk_at "O")]
 unfold mergeMapping
 refine Ru.bind (a:=true) (h1:=h) (k1:=k) (q1:=q) (n:=1) ?_ ?_
 ·refine Ru.bind (n:=1) (m:=0) (a:=.type "dict") (Ru.bind (n:=1) (m:=0) (Ru.loadPart ha) Ru.pure') ?_
  rw[dict_is];exact Ru.pure'
 rw[if_pos rfl]
 refine Ru.bind (n:=1) (a:=some (.builtin "dict.__iter__")) (h1:=h) (k1:=k) (q1:=q) ?_ ?_
 ·refine Ru.bind (n:=1) (m:=0) (a:=.type "dict") (Ru.bind (n:=1) (m:=0) (Ru.loadPart ha) Ru.pure') ?_
  rw[dict_iter];exact Ru.pure'
 rw[beq_self_eq_true]
 refine Ru.bind (n:=0) (a:=true) Ru.pure' ?_
 (try dsimp only)
 rw[if_neg (by rw[hs];exact Bool.false_ne_true)]
 refine Ru.bind (n:=1) (Ru.dictEntries hd) ?_
 rw[if_neg (by cases es with|nil=>exact absurd rfl hne|cons=>simp)]
 refine Ru.bind (n:=1) (Ru.dictEntries ha) ?_
 refine Ru.bind (n:=1) (Ru.dictEpoch ha) ?_
 have e0:h=Heap.puts h d (dObj (es++new.take 0) ep):=by
  obtain⟨e1,_⟩:=Heap.get?_some_iff.mp hd
  obtain⟨objs,life⟩:=h
  simp only[Heap.puts,Heap.update,Heap.mk.injEq,and_true] at e1 ⊢
  apply Array.ext_getElem?
  intro i
  simp only[Array.getElem?_modify]
  by_cases h1:d=i
  ·subst h1;simp only[if_true,e1,Option.map_some,List.take_zero,List.append_nil]
  ·simp only[if_neg h1]
 have eN:Heap.puts h d (dObj (es++new) (ep+new.length))=Heap.puts h d (dObj (es++new.take new.length) (ep+new.length)):=by rw[List.take_length]
 rw[eN]
 refine Ru.bind (a:=PUnit.unit) (n:=new.length*6) (m:=0) ?_ Ru.pure'
 rw[List.size_toArray]
 refine Ru.from (e0.trans (by rw[Nat.add_zero]:_=Heap.puts h d (dObj (es++new.take 0) (ep+0)))) ?_
 have hlen:(List.range new.length).length=new.length:=List.length_range
 have key:=fun B hB=>ru_forIn (w:=w) (gens:=gens) (drawn:=drawn) (os:=os) (q:=q) (n:=6) (body:=B) (List.range new.length)
  (fun j=>Heap.puts h d (dObj (es++new.take j) (ep+j))) (fun _=>k) (new.length*6) hB (by rw[hlen])
 rw[hlen] at key
 refine key _ (fun j i ej=>?_)
 have hj:j<new.length:=by have:=(List.getElem?_eq_some_iff.mp ej).1;rwa [List.length_range] at this
 obtain rfl:i=j:=by rw[List.getElem?_range hj] at ej;exact(Option.some.inj ej).symm
 have eg:new[i]? =some new[i]:=List.getElem?_eq_getElem hj
 obtain⟨⟨iv,tv,hkey,hhash⟩,hk1,hk2⟩:=hk i _ eg
 have ha':∀o,(Heap.puts h d o).get? a=some (dObj new en):=fun o=>by rw[puts_get_ne hda];exact ha
 refine Ru.bind (n:=1) (m:=5) (Ru.dictEntries (ha' _)) ?_
 rw[List.getElem?_toArray,eg]
 (try dsimp only)
 refine Ru.bind (n:=4) (m:=1) (Ru.holding (?_:Ru _ _ _ _ _ _ _ _ _ () (Heap.puts h d (dObj (es++new.take (i+1)) (ep+(i+1)))) k q)) ?_
 ·have hput:=Ru.dictPut (w:=w) (gens:=gens) (drawn:=drawn) (os:=os) (a:=d) (es:=es++new.take i) (ep:=ep+i) (i:=iv) (t:=tv) (v:=new[i].val) (h:=Heap.puts h d (dObj (es++new.take i) (ep+i))) (k:=k) (q:=q) l (puts_get hd rfl) (fun x hx=>by
   rcases List.mem_append.mp hx with hx|hx
   ·rw[<-hhash];exact hk1 x hx
   ·obtain⟨b,hb⟩:=List.getElem?_of_mem hx
    rw[List.getElem?_take] at hb
    by_cases hbi:b<i
    ·rw[if_pos hbi] at hb
     rw[<-hhash]
     exact hk2 b x hbi hb
    ·rw[if_neg hbi] at hb;cases hb) (by rw[List.length_append,List.length_take];(walk_at "O"))
  rw[puts_puts,List.append_assoc] at hput
  have ee:(⟨iv,.int iv tv,new[i].val⟩:DictEntry)=new[i]:=by
   have:new[i]=⟨new[i].hash,new[i].key,new[i].val⟩:=rfl
   rw[this,hkey,hhash]
  rw[ee, <-take_snoc eg] at hput
  rw[hkey,hhash]
  exact hput
 ·refine Ru.bind (n:=1) (m:=0) (Ru.dictEpoch (ha' _)) ?_
  rw[bne_self_eq_false,if_neg Bool.false_ne_true]
  exact Ru.pure'
end
end Uc
end
section
namespace Uc
section
variable {w:World}{gens:Array GenState}{drawn:Drawn}{os:OsState}
theorem PairsAre.take {q:Pos}{ps:List (Sem Value×Sem Value)}{xs:List (Int×Str)}(h:PairsAre q ps xs):∀n,PairsAre q (ps.take n) (xs.take n):=by
 induction h with
 |nil=>intro n;rw[List.take_nil,List.take_nil];exact .nil
 |cons a _ ih=>
  intro n
  cases n with
  |zero=>exact .nil
  |succ n=>exact .cons a (ih n)
theorem PairsAre.drop {q:Pos}{ps:List (Sem Value×Sem Value)}{xs:List (Int×Str)}(h:PairsAre q ps xs):∀n,PairsAre q (ps.drop n) (xs.drop n):=by
 induction h with
 |nil=>intro n;rw[List.drop_nil,List.drop_nil];exact .nil
 |cons a b ih=>
  intro n
  cases n with
  |zero=>exact .cons a b
  |succ n=>exact ih n
noncomputable abbrev Pair:=Sem Value×Sem Value
noncomputable def someP (p:Pair):Option (Sem Value)×Sem Value:=(some p.1,p.2)
noncomputable def flushD (run:List Pair)(main:Option Addr):Sem (Option Addr):=
 if run.isEmpty=true then pure main
 else match main with
  |none=>do
   let d<-subDict run
   pure (some d)
  |some d=>do
   let sub<-holding [Value.ref d] (subDict run)
   (holding [Value.ref d,Value.ref sub] (mergeMapping d (Value.ref sub) false)).onRaise fun x=>do
     let _<-holding [Value.ref d,x] (runValue (Code.builtin "proto.let_go" { }))
     pure ()
   pure (some d)
noncomputable abbrev LoopB:=(Option (Sem Value)×Sem Value)->(Option Addr×List Pair)->Sem (ForInStep (Option Addr×List Pair))
noncomputable def IsLoop (body:LoopB):Prop:=∀(p:Pair) (m:Option Addr) (r:List Pair),body (someP p) (m,r)= 
 (if ((r++[p]).length==17)=true then flushD (r++[p]) m>>=fun m'=>pure (ForInStep.yield (m',[])) else pure (ForInStep.yield (m,r++[p])))
theorem loop_run {body:LoopB}(hb:IsLoop body):∀(A:List Pair) (R:List (Option (Sem Value)×Sem Value)) (m:Option Addr) (r:List Pair),r.length+A.length<17->
  (forIn (A.map someP++R) (m,r) body:Sem _)=forIn R (m,r++A) body
 | [],R,m,r,_=>by rw[List.map_nil,List.nil_append,List.append_nil]
 |p::A,R,m,r,h=>by
  rw[List.length_cons] at h
  rw[List.map_cons,List.cons_append,List.forIn_cons,hb,if_neg (by rw[List.length_append,List.length_singleton,beq_iff_eq];(walk_at "O"))]
  show(forIn (A.map someP++R) (m,r++[p]) body:Sem _)=_
  rw[loop_run hb A R m (r++[p]) (by rw[List.length_append,List.length_singleton];(walk_at "O")),List.append_assoc,List.singleton_append]
theorem loop_flush {body:LoopB}(hb:IsLoop body){A:List Pair}{R:List (Option (Sem Value)×Sem Value)}{m m':Option Addr}(hA:A.length=17){h h1 h2:Heap}{k k1 k2:Nat}{q q2:Pos}{n n':Nat}{v:Option Addr×List Pair}
  (r1:Ru w gens drawn os (flushD A m) h k q n m' h1 k1 q) (r2:Ru w gens drawn os (forIn R (m',[]) body) h1 k1 q n' v h2 k2 q2):
  Ru w gens drawn os (forIn (A.map someP++R) (m,[]) body) h k q (n+n') v h2 k2 q2:=by
 obtain⟨A',p,rfl⟩:∃A' p,A=A'++[p]:=by
  rcases List.eq_nil_or_concat A with rfl|⟨A',p,e⟩
  ·cases hA
  ·exact⟨A',p,by rw[e,List.concat_eq_append]⟩
 rw[List.length_append,List.length_singleton] at hA
 rw[List.map_append,List.append_assoc,loop_run hb A' _ m [] (by simp only[List.length_nil];(walk_at "O")),List.nil_append,List.map_singleton,List.singleton_append,List.forIn_cons,hb,
  if_pos (by rw[List.length_append,List.length_singleton,beq_iff_eq];(walk_at "O"))]
 refine Ru.bind (m:=n') (n:=n) (a:=.yield (m',[])) (Ru.bind (n:=n) (m:=0) r1 Ru.pure') ?_
 exact r2
theorem Asc.mono:∀{xs:List (Int×Str)} {lo lo':Int},Asc lo xs->lo'<=lo->Asc lo' xs
 | [],_,_,_,_=>trivial
 |_::_,_,_,h,l=>⟨by have:=h.1;(walk_at "O"),h.2⟩
theorem Asc.take:∀{xs:List (Int×Str)} {lo:Int} (n:Nat),Asc lo xs->Asc lo (xs.take n)
 | [],_,n,_=>by rw[List.take_nil];trivial
 |_::_,_,0,_=>trivial
 |_::_,_,n+1,h=>⟨h.1,h.2.1,Asc.take n h.2.2⟩
theorem Asc.drop:∀{xs:List (Int×Str)} {lo:Int} (n:Nat),Asc lo xs->∃lo',lo<=lo'/\Asc lo' (xs.drop n)/\(∀x∈xs.take n,x.1<=lo')
 | [],lo,n,h=>⟨lo,Int.le_refl _,by rw[List.drop_nil];trivial,fun x hx=>by rw[List.take_nil] at hx;cases hx⟩
 |x::xs,lo,0,h=>⟨lo,Int.le_refl _,h,fun x hx=>nomatch hx⟩
 |x::xs,lo,n+1,h=>by
  obtain⟨lo',h1,h2,h3⟩:=Asc.drop n h.2.2
  refine⟨lo',by have:=h.1;(walk_at "O"),h2,fun y hy=>?_⟩
  rcases List.mem_cons.mp hy with rfl|hy
  ·exact h1
  ·exact h3 y hy
theorem new_apart {es new:List DictEntry}{xs:List (Int×Str)}{lo:Int}(hn:new.length=xs.length)(hat:∀(j:Nat) (x:Int×Str),xs[j]? =some x->∃t v,new[j]? =some ⟨x.1,.int x.1 t,v⟩)(ha:Asc lo xs)(hes:∀e∈es,e.hash<=lo):
  ∀(j:Nat) (e:DictEntry),new[j]? =some e->(∃i t,e.key=.int i t/\e.hash=i)/\(∀x∈es,x.hash≠e.hash)/\∀(i:Nat) (x:DictEntry),i<j->new[i]? =some x->x.hash≠e.hash:=by
 intro j e he
 have hj:j<xs.length:=by rw[<-hn];exact(List.getElem?_eq_some_iff.mp he).1
 obtain⟨t,v,h1⟩:=hat j xs[j] (List.getElem?_eq_getElem hj)
 rw[he] at h1
 cases h1
 have hA:=ha.at (List.getElem?_eq_getElem hj)
 refine⟨⟨_,_,rfl,rfl⟩,fun x hx=>?_,fun i x hi hx=>?_⟩
 ·have:=hes x hx
  have:=hA.1
  show x.hash≠xs[j].1
  (walk_at "O")
 ·have hi':i<xs.length:=by rw[<-hn];exact(List.getElem?_eq_some_iff.mp hx).1
  obtain⟨t',v',h2⟩:=hat i xs[i] (List.getElem?_eq_getElem hi')
  rw[hx] at h2
  cases h2
  have:=hA.2.2 i _ hi (List.getElem?_eq_getElem hi')
  show xs[i].1≠xs[j].1
  (walk_at "O")
theorem entL_hash {k:Nat}{xs:List (Int×Str)}{e:DictEntry}(h:e∈entL k xs):∃x∈xs,e.hash=x.1:=by
 induction xs generalizing k with
 |nil=>cases h
 |cons x xs ih=>
  rcases List.mem_cons.mp h with rfl|h
  ·exact⟨x,.head _,rfl⟩
  ·obtain⟨y,hy,e⟩:=ih h;exact⟨y,.tail _ hy,e⟩
theorem ru_flush {q:Pos}{A:List Pair}{xs:List (Int×Str)}{d:Addr}{es:List DictEntry}{ep:Nat}{h:Heap}{k:Nat}{lo:Int}(hp:PairsAre q A xs)(h17:xs.length=17)(ha:Asc lo xs)(hlo: -1<=lo)(hd:h.get? d=some (dObj es ep))(hes:∀e∈es,e.hash<=lo)(hne:es≠[])(hl:es.length<90000)(l:11<=d):
  Ru w gens drawn os (flushD A (some d)) h k q 330 (some d) ((Heap.puts h d (dObj (es++entL k xs) (ep+17))).push (dObj (entL k xs) 17)) (k+51) q:=by
 have hdl:=Heap.lt_size hd
 have l':11<=h.objs.size:=Nat.le_of_lt (Nat.lt_of_le_of_lt l hdl)
 have hA17:A.length=17:=by rw[hp.length,h17]
 unfold flushD
 rw[if_neg (by cases A with|nil=>cases hA17|cons=>simp)]
 (try dsimp only)
 have hsub:=ru_subLong (w:=w) (gens:=gens) (drawn:=drawn) (os:=os) (h:=h) (k:=k) hp (ha.mono hlo) (by rw[hA17];(walk_at "O")) (by rw[h17];(walk_at "O")) l'
 rw[h17] at hsub
 refine Ru.bind (n:=223) (m:=107) (Ru.holding hsub) ?_
 refine Ru.bind (n:=107) (m:=0) (a:=()) (Ru.onRaise (Ru.holding ?_)) Ru.pure'
 have hd':(h.push (dObj (entL k xs) 17)).get? d=some (dObj es ep):=Heap.get?_push_of_some _ hd
 have hm:=ru_merge (w:=w) (gens:=gens) (drawn:=drawn) (os:=os) (q:=q) (k:=k+3*17) (d:=d) (a:=h.objs.size) (es:=es) (new:=entL k xs) (ep:=ep) (en:=17) (h:=h.push (dObj (entL k xs) 17))
  (Nat.ble_eq_true_of_le l) hd' (Heap.get?_push_size h rfl) (Nat.ne_of_lt hdl) hne (beq_eq_false_iff_ne.mpr (Nat.ne_of_gt (Nat.lt_of_lt_of_le (by decide) l'))) (new_apart (entL_length k xs) (fun j x e=>⟨_,_,entL_at e⟩) ha hes) (by rw[entL_length];(walk_at "O"))
 rw[entL_length,h17,puts_push_ne _ _ _ (Nat.ne_of_lt hdl)] at hm
 exact hm
theorem ru_flushS {q:Pos}{A:List Pair}{xs:List (Int×Str)}{d:Addr}{es:List DictEntry}{ep:Nat}{h:Heap}{k:Nat}{lo:Int}(hp:PairsAre q A xs)(h0:xs≠[])(h15:xs.length<=15)(ha:Asc lo xs)(hlo: -1<=lo)(hd:h.get? d=some (dObj es ep))(hes:∀e∈es,e.hash<=lo)(hne:es≠[])(hl:es.length<90000)(l:11<=d):
  Ru w gens drawn os (flushD A (some d)) h k q (6+xs.length*19) (some d) ((Heap.puts h d (dObj (es++entS k xs) (ep+xs.length))).push (dObj (entS k xs) xs.length)) (k+3*xs.length) q:=by
 have hdl:=Heap.lt_size hd
 have l':11<=h.objs.size:=Nat.le_of_lt (Nat.lt_of_le_of_lt l hdl)
 have hA:A.length=xs.length:=hp.length
 unfold flushD
 rw[if_neg (by cases A with|nil=>(cases xs with|nil=>exact absurd rfl h0|cons=>cases hA)|cons=>simp)]
 (try dsimp only)
 have hsub:=ru_subShort (w:=w) (gens:=gens) (drawn:=drawn) (os:=os) (h:=h) (k:=k) hp (ha.mono hlo) (by rw[hA];exact h15) (by(walk_at "O")) l'
 rw[show 6+xs.length*19=(1+xs.length*13)+(5+xs.length*6) by(walk_at "O")]
 refine Ru.bind (Ru.holding hsub) ?_
 refine Ru.bind (n:=5+xs.length*6) (m:=0) (a:=()) (Ru.onRaise (Ru.holding ?_)) Ru.pure'
 have hd':(h.push (dObj (entS k xs) xs.length)).get? d=some (dObj es ep):=Heap.get?_push_of_some _ hd
 have hm:=ru_merge (w:=w) (gens:=gens) (drawn:=drawn) (os:=os) (q:=q) (k:=k+3*xs.length) (d:=d) (a:=h.objs.size) (es:=es) (new:=entS k xs) (ep:=ep) (en:=xs.length) (h:=h.push (dObj (entS k xs) xs.length))
  (Nat.ble_eq_true_of_le l) hd' (Heap.get?_push_size h rfl) (Nat.ne_of_lt hdl) hne (beq_eq_false_iff_ne.mpr (Nat.ne_of_gt (Nat.lt_of_lt_of_le (by decide) l'))) (new_apart (entS_length k xs) (fun j x e=>⟨_,_,entS_at e⟩) ha hes) (by rw[entS_length];(walk_at "O"))
 rw[entS_length,puts_push_ne _ _ _ (Nat.ne_of_lt hdl)] at hm
 exact hm
end
end Uc
end
section
namespace Uc
noncomputable def pushN:Nat->Heap->Nat->List (Int×Str)->Heap
 |0,h,_,_=>h
 |n+1,h,k,xs=>pushN n (h.push (dObj (entL k (xs.take 17)) 17)) (k+51) (xs.drop 17)
theorem pushN_s (n:Nat)(h:Heap)(k:Nat)(xs:List (Int×Str)):pushN (n+1) h k xs=pushN n (h.push (dObj (entL k (xs.take 17)) 17)) (k+51) (xs.drop 17):=rfl
theorem entL_s (k:Nat)(x:Int×Str)(xs:List (Int×Str)):entL k (x::xs)=⟨x.1,.int x.1 k,.str x.2 (k+1)⟩::entL (k+3) xs:=rfl
theorem entL_append:∀(k n:Nat) (xs:List (Int×Str)),n<=xs.length->entL k xs=entL k (xs.take n)++entL (k+3*n) (xs.drop n)
 |k,0,xs,_=>rfl
 |k,n+1,[],h=>absurd h (by simp)
 |k,n+1,x::xs,h=>by
  rw[List.take_succ_cons,List.drop_succ_cons,entL_s,entL_s,entL_append (k+3) n xs (by simpa using h),show k+3+3*n=k+3*(n+1) by(walk_at "O"),List.cons_append]
theorem pushN_size:∀(n:Nat) (h:Heap) (k:Nat) (xs:List (Int×Str)),(pushN n h k xs).objs.size=h.objs.size+n
 |0,_,_,_=>rfl
 |n+1,h,k,xs=>by
  rw[pushN_s,pushN_size n]
  have:(h.push (dObj (entL k (xs.take 17)) 17)).objs.size=h.objs.size+1:=by cases h;simp[Heap.push]
  rw[this];(walk_at "O")
theorem puts_pushN:∀(n:Nat) (h:Heap) (k:Nat) (xs:List (Int×Str)) {d:Addr} (o:Obj),(d:Nat)<h.objs.size->Heap.puts (pushN n h k xs) d o=pushN n (Heap.puts h d o) k xs
 |0,_,_,_,_,_,_=>rfl
 |n+1,h,k,xs,d,o,hd=>by
  have:(h.push (dObj (entL k (xs.take 17)) 17)).objs.size=h.objs.size+1:=by cases h;simp[Heap.push]
  rw[pushN_s,pushN_s,puts_pushN n _ _ _ _ (by rw[this];exact Nat.lt_succ_of_lt hd),puts_push_ne _ _ _ (Nat.ne_of_lt hd)]
section
variable {w:World}{gens:Array GenState}{drawn:Drawn}{os:OsState}
theorem ru_groups {body:LoopB}(hb:IsLoop body){q:Pos}{d:Addr}(l:11<=d):∀(N:Nat) {ps:List Pair} {xs:List (Int×Str)} {es:List DictEntry} {ep:Nat} {h:Heap} {k:Nat} {lo:Int},PairsAre q ps xs->17*N<=xs.length->Asc lo xs-> -1<=lo->h.get? d=some (dObj es ep)->(∀e∈es,e.hash<=lo)->es≠[]->es.length+17*N<90000->
  ∀{n' k2:Nat} {h2:Heap} {q2:Pos} {v:Option Addr×List Pair},
  Ru w gens drawn os (forIn ((ps.drop (17*N)).map someP) (some d,[]) body) (pushN N (Heap.puts h d (dObj (es++entL k (xs.take (17*N))) (ep+17*N))) k xs) (k+51*N) q n' v h2 k2 q2->
  Ru w gens drawn os (forIn (ps.map someP) (some d,[]) body) h k q (330*N+n') v h2 k2 q2:=by
 intro N
 induction N with
 |zero=>
  intro ps xs es ep h k lo hp hN ha hlo hd hes hne hl n' k2 h2 q2 v r
  have e0:Heap.puts h d (dObj (es++entL k (xs.take (17*0))) (ep+17*0))=h:=by
   obtain⟨e1,_⟩:=Heap.get?_some_iff.mp hd
   obtain⟨objs,life⟩:=h
   simp only[Heap.puts,Heap.update,Heap.mk.injEq,and_true] at e1 ⊢
   apply Array.ext_getElem?
   intro i
   simp only[Array.getElem?_modify]
   by_cases h1:d=i
   ·subst h1;simp only[if_true,e1,Option.map_some,Nat.mul_zero,List.take_zero,show ∀k,entL k []=[] from fun _=>rfl,List.append_nil,Nat.add_zero]
   ·simp only[if_neg h1]
  rw[show ∀h k xs,pushN 0 h k xs=h from fun _ _ _=>rfl,e0] at r
  simp only[Nat.mul_zero,List.drop_zero,Nat.add_zero] at r
  rw[Nat.mul_zero,Nat.zero_add]
  exact r
 |succ N ih=>
  intro ps xs es ep h k lo hp hN ha hlo hd hes hne hl n' k2 h2 q2 v r
  have hxl:(xs.take 17).length=17:=by rw[List.length_take];(walk_at "O")
  have hpl:(ps.take 17).length=17:=by rw[List.length_take,hp.length];(walk_at "O")
  obtain⟨lo',hlo',ha',hle⟩:=Asc.drop 17 ha
  have hf:=ru_flush (w:=w) (gens:=gens) (drawn:=drawn) (os:=os) (k:=k) (hp.take 17) hxl (ha.take 17) hlo hd hes hne (by(walk_at "O")) l
  have hdl:=Heap.lt_size hd
  have e2:ps.map someP=(ps.take 17).map someP++(ps.drop 17).map someP:=by rw[<-List.map_append,List.take_append_drop]
  rw[e2,show 330*(N+1)+n'=330+(330*N+n') by(walk_at "O")]
  refine loop_flush hb hpl hf ?_
  have hdl':(d:Nat)<(Heap.puts h d (dObj (es++entL k (xs.take 17)) (ep+17))).objs.size:=by rw[puts_size];exact hdl
  refine ih (lo:=lo') (hp.drop 17) (by rw[List.length_drop];(walk_at "O")) ha' (by(walk_at "O")) (Heap.get?_push_of_some _ (puts_get hd rfl)) (fun e he=>?_) (fun q=>?_) (by rw[List.length_append,entL_length,hxl];(walk_at "O")) ?_
  ·rcases List.mem_append.mp he with he|he
   ·have:=hes e he;(walk_at "O")
   ·obtain⟨x,hx,ex⟩:=entL_hash he
    have:=hle x hx
    (walk_at "O")
  ·rcases List.append_eq_nil_iff.mp q with ⟨q,_⟩
   exact hne q
  ·rw[puts_push_ne _ _ _ (Nat.ne_of_lt hdl'),puts_puts,List.append_assoc]
   have e3:entL k (xs.take 17)++entL (k+51) ((xs.drop 17).take (17*N))=entL k (xs.take (17*(N+1))):=by
    rw[entL_append k 17 (xs.take (17*(N+1))) (by rw[List.length_take];(walk_at "O")),List.take_take,show min 17 (17*(N+1))=17 by(walk_at "O"),List.drop_take,show 17*(N+1)-17=17*N by(walk_at "O")]
   rw[e3,List.drop_drop,show 17+17*N=17*(N+1) by(walk_at "O"),show ep+17+17*N=ep+17*(N+1) by(walk_at "O"),show k+51+51*N=k+51*(N+1) by(walk_at "O")]
   exact r
theorem ru_display {q:Pos}{ps:List Pair}{xs:List (Int×Str)}{h:Heap}{k N m:Nat}(hp:PairsAre q ps xs)(hx:xs.length=17*(N+1)+m)(hm0:0<m)(hm:m<=15)(ha:Asc (-1) xs)(hl:xs.length<80000)(l:11<=h.objs.size):
  Ru w gens drawn os (dictDisplay (ps.map someP)) h k q (229+330*N+m*19) (.ref h.objs.size)
   ((pushN N (h.push (dObj (entL k (xs.take (17*(N+1)))++entS (k+51*(N+1)) (xs.drop (17*(N+1)))) (17*(N+1)+m))) (k+51) (xs.drop 17)).push (dObj (entS (k+51*(N+1)) (xs.drop (17*(N+1)))) m)) (k+51*(N+1)+3*m) q:=by
 have hxl:(xs.take 17).length=17:=by rw[List.length_take];(walk_at "O")
 have hpl:(ps.take 17).length=17:=by rw[List.length_take,hp.length];(walk_at "O")
 obtain⟨lo1,hlo1,ha1,hle1⟩:=Asc.drop 17 ha
 obtain⟨lo2,hlo2,ha2,hle2⟩:=Asc.drop (17*(N+1)) ha
 have hs:(h.push (dObj (entL k (xs.take 17)) 17)).objs.size=h.objs.size+1:=by cases h;simp[Heap.push]
 -- the first group
 have h1:Ru w gens drawn os (flushD (ps.take 17) none) h k q 223 (some h.objs.size) (h.push (dObj (entL k (xs.take 17)) 17)) (k+51) q:=by
  unfold flushD
  rw[if_neg (by cases e:ps.take 17 with|nil=>rw[e] at hpl;cases hpl|cons=>simp)]
  (try dsimp only)
  have:=ru_subLong (w:=w) (gens:=gens) (drawn:=drawn) (os:=os) (h:=h) (k:=k) (hp.take 17) (ha.take 17) (by rw[hpl];(walk_at "O")) (by rw[hxl];(walk_at "O")) l
  rw[hxl] at this
  exact Ru.bind (n:=223) (m:=0) this Ru.pure'
 have hd:(h.push (dObj (entL k (xs.take 17)) 17)).get? h.objs.size=some (dObj (entL k (xs.take 17)) 17):=Heap.get?_push_size h rfl
 have hdl:(xs.drop (17*(N+1))).length=m:=by rw[List.length_drop];(walk_at "O")
 have e2:ps.map someP=(ps.take 17).map someP++(ps.drop 17).map someP:=by rw[<-List.map_append,List.take_append_drop]
 have e3:entL k (xs.take 17)++entL (k+51) ((xs.drop 17).take (17*N))=entL k (xs.take (17*(N+1))):=by
  rw[entL_append k 17 (xs.take (17*(N+1))) (by rw[List.length_take];(walk_at "O")),List.take_take,show min 17 (17*(N+1))=17 by(walk_at "O"),List.drop_take,show 17*(N+1)-17=17*N by(walk_at "O")]
 have e4:(ps.drop 17).drop (17*N)=ps.drop (17*(N+1)):=by rw[List.drop_drop,show 17+17*N=17*(N+1) by(walk_at "O")]
 -- the short group's flush
 have hH:(pushN N (h.push (dObj (entL k (xs.take (17*(N+1)))) (17*(N+1)))) (k+51) (xs.drop 17)).get? h.objs.size=some (dObj (entL k (xs.take (17*(N+1)))) (17*(N+1))):=by
  have key:∀(n:Nat) (H:Heap) (k:Nat) (xs:List (Int×Str)) (a:Addr) (o:Obj),H.get? a=some o->(pushN n H k xs).get? a=some o:=fun n=>by
   induction n with
   |zero=>intro H k xs a o e;exact e
   |succ n ih=>intro H k xs a o e;exact ih _ _ _ _ _ (Heap.get?_push_of_some _ e)
  exact key _ _ _ _ _ _ (Heap.get?_push_size h rfl)
 have hne:entL k (xs.take (17*(N+1)))≠[]:=fun q=>by
  have:=congrArg List.length q
  rw[entL_length,List.length_take,List.length_nil] at this
  (walk_at "O")
 have h3:=ru_flushS (w:=w) (gens:=gens) (drawn:=drawn) (os:=os) (q:=q) (A:=ps.drop (17*(N+1))) (xs:=xs.drop (17*(N+1))) (k:=k+51*(N+1)) (lo:=lo2) (hp.drop _) (fun q=>by rw[q] at hdl;simp at hdl;(walk_at "O")) (by rw[hdl];exact hm) ha2 (by(walk_at "O")) hH
  (fun e he=>by
   obtain⟨x,hx,ex⟩:=entL_hash he
   have:=hle2 x hx
   (walk_at "O")) hne (by rw[entL_length,List.length_take];(walk_at "O")) l
 rw[hdl,puts_pushN _ _ _ _ _ (by cases h;simp[Heap.push]),puts_push] at h3
 rw[show 229+330*N+m*19=223+(330*N+0)+(6+m*19) by(walk_at "O")]
 unfold dictDisplay
 (try dsimp only)
 refine Ru.bind (n:=223+(330*N+0)) (m:=6+m*19) (a:=(some h.objs.size,ps.drop (17*(N+1)))) (h1:=pushN N (h.push (dObj (entL k (xs.take (17*(N+1)))) (17*(N+1)))) (k+51) (xs.drop 17)) (k1:=k+51*(N+1)) (q1:=q) ?_ ?_
 ·rw[e2]
  refine loop_flush (fun p m r=>?_) hpl h1 ?_
  ·rfl
  ·refine ru_groups (fun p m r=>?_) l N (lo:=lo1) (hp.drop 17) (by rw[List.length_drop];(walk_at "O")) ha1 hlo1 hd (fun e he=>?_) (fun q=>?_) (by rw[entL_length,hxl];(walk_at "O")) ?_
   ·rfl
   ·obtain⟨x,hx,ex⟩:=entL_hash he
    have:=hle1 x hx
    (walk_at "O")
   ·have:=congrArg List.length q
    rw[entL_length,hxl] at this
    cases this
   ·rw[puts_push,e3,e4,show 17+17*N=17*(N+1) by(walk_at "O"),show k+51+51*N=k+51*(N+1) by(walk_at "O")]
    have hpd:(ps.drop (17*(N+1))).length=m:=by rw[List.length_drop,hp.length];(walk_at "O")
    have run:∀(body:LoopB),IsLoop body->Ru w gens drawn os (forIn ((ps.drop (17*(N+1))).map someP) (some h.objs.size,[]) body) (pushN N (h.push (dObj (entL k (xs.take (17*(N+1)))) (17*(N+1)))) (k+51) (xs.drop 17)) (k+51*(N+1)) q 0 (some h.objs.size,ps.drop (17*(N+1))) (pushN N (h.push (dObj (entL k (xs.take (17*(N+1)))) (17*(N+1)))) (k+51) (xs.drop 17)) (k+51*(N+1)) q:=fun body hb=>by
     have:=loop_run hb (ps.drop (17*(N+1))) [] (some h.objs.size) [] (by rw[hpd];simp only[List.length_nil];(walk_at "O"))
     rw[List.append_nil,List.nil_append] at this
     rw[this]
     exact Ru.pure'
    exact run _ (fun p m r=>rfl)
 ·refine Ru.bind (n:=6+m*19) (m:=0) (a:=some h.objs.size) ?_ Ru.pure'
  exact h3
end
end Uc
end
section
namespace Uc
noncomputable def dataOf:List (Option Expr)->List Expr->List (Int×Str)
 | [],_=>[]
 |_::_,[]=>[]
 |k::ks,v::vs=>((intE k).getD 0,(strE v).getD Str.empty)::dataOf ks vs
noncomputable def keyOk (k:Option Expr):Bool:=(intE k).isSome
noncomputable def valOk (e:Expr):Bool:=(strE e).isSome
theorem cst_ok {e:Expr}{c:Const}(h:cstOf e=some c):∃a b,e=.Constant c a b:=by
 cases e<;>first|(cases h;done)|(cases h;exact⟨_,_,rfl⟩)
theorem intC_ok {c:Const}{i:Int}(h:intC c=some i):c=.int i:=by
 cases c<;>first|(cases h;done)|(cases h;rfl)
theorem strC_ok {c:Const}{i:Str}(h:strC c=some i):c=.str i:=by
 cases c<;>first|(cases h;done)|(cases h;rfl)
theorem bind_some {α β:Type}{o:Option α}{f:α->Option β}(h:(o.bind f).isSome=true):∃a b,o=some a/\f a=some b:=by
 cases o with
 |none=>cases h
 |some a=>
  replace h:(f a).isSome=true:=h
  cases e:f a with
  |none=>rw[e] at h;cases h
  |some b=>exact⟨a,b,rfl,e⟩
noncomputable def shapeOk:List (Option Expr)->List Expr->Bool
 | []=>fun vs=>vs.isEmpty
 |k::ks=>fun vs=>keyOk k&&valOk (vs.headD (.Tuple [] 0 ⟨0,0,0,0⟩))&& !vs.isEmpty&&shapeOk ks vs.tail
theorem key_ok {k:Option Expr}(h:keyOk k=true):∃i a b,k=some (.Constant (.int i) a b):=by
 cases k with
 |none=>cases h
 |some e=>
  obtain⟨c,i,h1,h2⟩:=bind_some (o:=cstOf e) h
  obtain⟨a,b,e1⟩:=cst_ok h1
  exact⟨i,a,b,by rw[e1,intC_ok h2]⟩
theorem val_ok {e:Expr}(h:valOk e=true):∃x a b,e=.Constant (.str x) a b:=by
 obtain⟨c,i,h1,h2⟩:=bind_some (o:=cstOf e) h
 obtain⟨a,b,e1⟩:=cst_ok h1
 exact⟨i,a,b,by rw[e1,strC_ok h2]⟩
noncomputable def itemsOf (ks:List (Option Expr))(vs:List Expr)(pos:Pos)(env:Env):List (Option (Sem Value)×Sem Value):=
 (evalEachOpt ks env).zip ((evalEach vs env).map fun v=>do let x<-v;standAt pos;pure x)
theorem eval_const (c:Const)(a:_)(b:_)(env:Env):eval (.Constant c a b) env=constValue env c:=by kernel_rfl
theorem eval_dict (ks:List (Option Expr))(vs:List Expr)(p:Pos)(env:Env):eval (.Dict ks vs p) env=(standAt p>>=fun _=>dictDisplay (itemsOf ks vs p env)):=by kernel_rfl
theorem each_cons (e:Expr)(es:List Expr)(env:Env):evalEach (e::es) env=eval e env::evalEach es env:=by kernel_rfl
theorem eachO_cons (e:Expr)(es:List (Option Expr))(env:Env):evalEachOpt (some e::es) env=some (eval e env)::evalEachOpt es env:=by kernel_rfl
theorem shape_cons {k:Option Expr}{ks:List (Option Expr)}{e:Expr}{vs:List Expr}(h:shapeOk (k::ks) (e::vs)=true):∃i a b x a' b',k=some (.Constant (.int i) a b)/\e=.Constant (.str x) a' b'/\shapeOk ks vs=true:=by
 replace h:(keyOk k&&valOk e&&true&&shapeOk ks vs)=true:=h
 rw[Bool.and_true,Bool.and_eq_true,Bool.and_eq_true] at h
 obtain⟨i,a,b,e1⟩:=key_ok h.1.1
 obtain⟨x,a',b',e2⟩:=val_ok h.1.2
 exact⟨i,a,b,x,a',b',e1,e2,h.2⟩
theorem items_of {pos:Pos}{env:Env}:∀(ks:List (Option Expr)) (vs:List Expr),shapeOk ks vs=true->∃ps,itemsOf ks vs pos env=ps.map someP/\PairsAre pos ps (dataOf ks vs):=by
 intro ks
 induction ks with
 |nil=>
  intro vs h
  cases vs with
  |nil=>exact⟨[],rfl,.nil⟩
  |cons e vs=>exact Bool.noConfusion h
 |cons k ks ih=>
  intro vs h
  cases vs with
  |nil=>
   replace h:(keyOk k&&_&&false&&_)=true:=h
   rw[Bool.and_false,Bool.false_and] at h
   cases h
  |cons e vs=>
   obtain⟨i,a,b,x,a',b',rfl,rfl,h⟩:=shape_cons h
   obtain⟨ps,e,hp⟩:=ih vs h
   refine⟨(constValue env (.int i),(do let y<-constValue env (.str x);standAt pos;pure y))::ps,?_,.cons ⟨?_,?_⟩ hp⟩
   ·rw[List.map_cons, <-e]
    unfold itemsOf
    rw[eachO_cons,each_cons,eval_const,eval_const,List.map_cons,List.zip_cons_cons]
    rfl
   ·intro w gens drawn os h k
    exact Ru.bind (n:=1) (m:=0) Ru.fresh Ru.pure'
   ·intro w gens drawn os h k
    exact Ru.bind (n:=1) (m:=1) (Ru.bind (n:=1) (m:=0) Ru.fresh Ru.pure') (Ru.bind (n:=1) (m:=0) Ru.standAt Ru.pure')
noncomputable def ascB:Int->List (Int×Str)->Bool
 |_,[]=>true
 |lo,x::xs=>decide (lo<x.1)&&decide (x.1<2^32)&&ascB x.1 xs
theorem asc_of:∀{lo:Int} {xs:List (Int×Str)},ascB lo xs=true->Asc lo xs
 |_,[],_=>trivial
 |lo,x::xs,h=>by
  have h1:=Bool.and_eq_true_iff.mp (Bool.and_eq_true_iff.mp h).1
  exact⟨of_decide_eq_true h1.1,of_decide_eq_true h1.2,asc_of (Bool.and_eq_true_iff.mp h).2⟩
noncomputable def insN:Nat->BT->Nat->Nat->List (Int×Str)->BT
 |0,T,_,_,_=>T
 |n+1,T,a,k,xs=>insN n (T.ins a (dObj (entL k (xs.take 17)) 17)) (a+1) (k+51) (xs.drop 17)
theorem insN_s (n:Nat)(T:BT)(a k:Nat)(xs:List (Int×Str)):insN (n+1) T a k xs=insN n (T.ins a (dObj (entL k (xs.take 17)) 17)) (a+1) (k+51) (xs.drop 17):=rfl
noncomputable def insOk:Nat->BT->Nat->Nat->List (Int×Str)->Bool
 |0,_,_,_,_=>true
 |n+1,T,a,k,xs=>((T.ins a (dObj (entL k (xs.take 17)) 17)).get a).isSome&&insOk n (T.ins a (dObj (entL k (xs.take 17)) 17)) (a+1) (k+51) (xs.drop 17)
theorem pushN_abs {life:Life}:∀(n:Nat) (T:BT) (a k:Nat) (xs:List (Int×Str)),insOk n T a k xs=true->pushN n (absHeap T a life) k xs=absHeap (insN n T a k xs) (a+n) life
 |0,_,_,_,_,_=>rfl
 |n+1,T,a,k,xs,h=>by
  obtain⟨h1,h2⟩:=Bool.and_eq_true_iff.mp h
  rw[pushN_s,insN_s, <-absHeap_ins h1,pushN_abs n _ _ _ _ h2,show a+1+n=a+(n+1) by omega]
noncomputable abbrev tabXs:List (Int×Str):=dataOf tabKeys tabVals
theorem tab_shape:shapeOk tabKeys tabVals=true:=by kernel_rfl
theorem tab_asc:ascB (-1) tabXs=true:=by kernel_rfl
theorem tab_len:tabXs.length=17*(37+1)+4:=by kernel_rfl
theorem tab_st:hL2=[.Assign tabTg (.Dict tabKeys tabVals tabP) tabP0]:=by kernel_rfl
noncomputable def restD (ts:List Expr)(ks:List (Option Expr))(vs:List Expr)(p:Pos)(env:Env)(v:Value):Sem Flow:=do assignStores env v (<-swappedStores ts (.Dict ks vs p) env) ((assignEach ts env).map (·.2))
theorem exec_dict {ts:List Expr}{ks:List (Option Expr)}{vs:List Expr}{p p0:Pos}{env:Env}(h:swapsWithSole ts (.Dict ks vs p) p0.line env=(pure false:Sem Bool)):exec (.Assign ts (.Dict ks vs p) p0) env=((standAt p0>>=fun _=>standAt p>>=fun _=>dictDisplay (itemsOf ks vs p env))>>=restD ts ks vs p env):=by
 have e:exec (.Assign ts (.Dict ks vs p) p0) env=(standAt p0>>=fun _=>swapsWithSole ts (.Dict ks vs p) p0.line env>>=fun b=>if b=true then(do
   evalThenUse (.Dict ks vs p) env fun v=>assignAll v ((assignEach ts env).map (·.2))
   pure .next) else(do
   let v<-eval (.Dict ks vs p) env
   assignStores env v (<-swappedStores ts (.Dict ks vs p) env) ((assignEach ts env).map (·.2)))):=by kernel_rfl
 rw[e,h,eval_dict]
 rfl
theorem tab_swaps:swapsWithSole tabTg (.Dict tabKeys tabVals tabP) tabP0.line hEnv=(pure false:Sem Bool):=by kernel_rfl
end Uc
end
section
namespace Uc
noncomputable abbrev tabK1:Nat:=425+51*(37+1)
noncomputable def tabMain:Obj:=dObj (entL 425 (tabXs.take (17*(37+1)))++entS tabK1 (tabXs.drop (17*(37+1)))) (17*(37+1)+4)
noncomputable def tabLast:Obj:=dObj (entS tabK1 (tabXs.drop (17*(37+1)))) 4
theorem tab_ok1 (P:Params):(((hT1 P).ins 148 tabMain).get 148).isSome=true:=by kernel_rfl
theorem tab_ok2 (P:Params):insOk 37 ((hT1 P).ins 148 tabMain) 149 (425+51) (tabXs.drop 17)=true:=by kernel_rfl
theorem tab_ok3 (P:Params):(((insN 37 ((hT1 P).ins 148 tabMain) 149 (425+51) (tabXs.drop 17)).ins 186 tabLast).get 186).isSome=true:=by kernel_rfl
theorem tab_tree (P:Params):(insN 37 ((hT1 P).ins 148 tabMain) 149 (425+51) (tabXs.drop 17)).ins 186 tabLast=hTd P:=by kernel_rfl
noncomputable def hSd (w:World)(os:OsState):SharedT:=⟨hTd w.params,187,hLife w.params,#[],boot_drawn,2375,os⟩
theorem tab_value (w:World)(os:OsState)(q:Pos):Ru w #[] boot_drawn os (standAt tabP0>>=fun _=>standAt tabP>>=fun _=>dictDisplay (itemsOf tabKeys tabVals tabP hEnv)) (absHeap (hT1 w.params) 148 (hLife w.params)) 425 q 12517 (.ref 148) (absHeap (hTd w.params) 187 (hLife w.params)) 2375 tabP:=by
 obtain⟨ps,e,hp⟩:=items_of (pos:=tabP) (env:=hEnv) tabKeys tabVals tab_shape
 have hs:(absHeap (hT1 w.params) 148 (hLife w.params)).objs.size=148:=absHeap_size ..
 have r:=ru_display (w:=w) (gens:=#[]) (drawn:=boot_drawn) (os:=os) (h:=absHeap (hT1 w.params) 148 (hLife w.params)) (k:=425) (N:=37) (m:=4) hp tab_len (by decide) (by decide) (asc_of tab_asc) (by rw[tab_len];decide) (by rw[hs];decide)
 have h1:(absHeap (hT1 w.params) 148 (hLife w.params)).push tabMain=absHeap ((hT1 w.params).ins 148 tabMain) 149 (hLife w.params):=(absHeap_ins (tab_ok1 _)).symm
 have h2:=pushN_abs (life:=hLife w.params) 37 ((hT1 w.params).ins 148 tabMain) 149 (425+51) (tabXs.drop 17) (tab_ok2 _)
 have h3:(absHeap (insN 37 ((hT1 w.params).ins 148 tabMain) 149 (425+51) (tabXs.drop 17)) 186 (hLife w.params)).push tabLast=absHeap (hTd w.params) 187 (hLife w.params):=by
  rw[<-absHeap_ins (tab_ok3 _),tab_tree]
 have hH:((pushN 37 ((absHeap (hT1 w.params) 148 (hLife w.params)).push tabMain) (425+51) (tabXs.drop 17)).push tabLast)=absHeap (hTd w.params) 187 (hLife w.params):=by
  rw[h1,h2];exact h3
 rw[hs, <-e] at r
 have r':Ru w #[] boot_drawn os (dictDisplay (itemsOf tabKeys tabVals tabP hEnv)) (absHeap (hT1 w.params) 148 (hLife w.params)) 425 tabP 12515 (.ref 148) (absHeap (hTd w.params) 187 (hLife w.params)) 2375 tabP:=by
  rw[<-hH];exact r
 exact Ru.bind (n:=1) (m:=12516) Ru.standAt (Ru.bind (n:=1) (m:=12515) Ru.standAt r')
theorem tab_tail (w:World):(fun os=>PySem.W.Fast.tw10110043849684766642 PySem.W.Fast.tw14364793385576792824 Challenge.pw_uc0057_02 w 11 hAnn 1 8 (hSd w os) ⟨(restD tabTg tabKeys tabVals tabP hEnv (.ref 148)).wrap (fun f=>match f with| .next=>(execs [] hEnv).wrap doneF deadEnd id id|f=>doneF f) deadEnd id id,hCode,tabP,[topFrame hFp]⟩)=fun os=>some (.next,hS2 w os,hCode,⟨109,0,109,13⟩):=by kernel_rfl
theorem hG2 (w:World)(os:OsState):segRun treeTable Challenge.pw_uc0057_02 w 11 hAnn 1 12525 (hS1 w os).abs ⟨(execs hL2 hEnv).wrap doneF deadEnd id id,hCode,⟨107,0,108,30⟩,[topFrame hFp]⟩=some (.next,(hS2 w os).abs,hCode,⟨109,0,109,13⟩):=by
 rw[tab_st,execs_cons_wrap,exec_dict tab_swaps,Sem.bind_eq_wrap',Sem.wrap_wrap]
 refine seg_go (n:=12517) (N:=8) (tab_value w os _ _ _ _ _) ?_
 have t:=congrFun (tab_tail w) os
 rw[<-PySem.W.Fast.te10110043849684766642, <-PySem.W.Fast.te14364793385576792824] at t
 exact segRun_of t
end Uc
end
section
namespace Uc
noncomputable def hP0 (w:World):Prop:=(fun os=>PySem.W.Fast.tw10110043849684766642 PySem.W.Fast.tw14364793385576792824 Challenge.pw_uc0057_02 w 11 hAnn 1 872 (hSb w os) ⟨(PySem.W.Fast.tw12563942051412417395 hL0 hEnv).wrap doneF deadEnd id id,hCode,⟨0,0,0,0⟩,[topFrame hFp]⟩)=fun os=>some (.next,hS0 w os,hCode,⟨105,0,105,8⟩)
theorem hP0f (w:World):hP0 (w.withFollow "special-get-raises" false):=by unfold hP0;kernel_rfl
theorem hP0t (w:World):hP0 (w.withFollow "special-get-raises" true):=by unfold hP0;kernel_rfl
theorem hQ0 (w:World):hP0 w:=byRow2 "special-get-raises" (P:=fun w=>hP0 w) (fun w=>hP0f w) (fun w=>hP0t w) w
theorem hG0 (w:World)(os:OsState):segRun treeTable Challenge.pw_uc0057_02 w 11 hAnn 1 872 (hSb w os).abs ⟨(execs hL0 hEnv).wrap doneF deadEnd id id,hCode,⟨0,0,0,0⟩,[topFrame hFp]⟩=some (.next,(hS0 w os).abs,hCode,⟨105,0,105,8⟩):=by
 have t:(fun os=>PySem.W.Fast.tw10110043849684766642 PySem.W.Fast.tw14364793385576792824 Challenge.pw_uc0057_02 w 11 hAnn 1 872 (hSb w os) ⟨(PySem.W.Fast.tw12563942051412417395 hL0 hEnv).wrap doneF deadEnd id id,hCode,⟨0,0,0,0⟩,[topFrame hFp]⟩) os=some (.next,hS0 w os,hCode,⟨105,0,105,8⟩):=congrFun (hQ0 w) os
 rw[<-@PySem.W.Fast.te10110043849684766642, <-@PySem.W.Fast.te14364793385576792824, <-@PySem.W.Fast.te12563942051412417395] at t
 exact segRun_of t
noncomputable def hP1 (w:World):Prop:=(fun os=>PySem.W.Fast.tw10110043849684766642 PySem.W.Fast.tw14364793385576792824 Challenge.pw_uc0057_02 w 11 hAnn 1 1028 (hS0 w os) ⟨(PySem.W.Fast.tw12563942051412417395 hL1 hEnv).wrap doneF deadEnd id id,hCode,⟨105,0,105,8⟩,[topFrame hFp]⟩)=fun os=>some (.next,hS1 w os,hCode,⟨107,0,108,30⟩)
theorem hP1ff (w:World):hP1 ((w.withFollow "special-get-raises" false).withFollow "set-order" false):=by unfold hP1;kernel_rfl
theorem hP1ft (w:World):hP1 ((w.withFollow "special-get-raises" true).withFollow "set-order" false):=by unfold hP1;kernel_rfl
theorem hP1tf (w:World):hP1 ((w.withFollow "special-get-raises" false).withFollow "set-order" true):=by unfold hP1;kernel_rfl
theorem hP1tt (w:World):hP1 ((w.withFollow "special-get-raises" true).withFollow "set-order" true):=by unfold hP1;kernel_rfl
theorem hQ1 (w:World):hP1 w:=byRow2 "set-order" (P:=fun w=>hP1 w) (fun w=>byRow2 "special-get-raises" (P:=fun w=>hP1 (w.withFollow "set-order" false)) (fun w=>hP1ff w) (fun w=>hP1ft w) w) (fun w=>byRow2 "special-get-raises" (P:=fun w=>hP1 (w.withFollow "set-order" true)) (fun w=>hP1tf w) (fun w=>hP1tt w) w) w
theorem hG1 (w:World)(os:OsState):segRun treeTable Challenge.pw_uc0057_02 w 11 hAnn 1 1028 (hS0 w os).abs ⟨(execs hL1 hEnv).wrap doneF deadEnd id id,hCode,⟨105,0,105,8⟩,[topFrame hFp]⟩=some (.next,(hS1 w os).abs,hCode,⟨107,0,108,30⟩):=by
 have t:(fun os=>PySem.W.Fast.tw10110043849684766642 PySem.W.Fast.tw14364793385576792824 Challenge.pw_uc0057_02 w 11 hAnn 1 1028 (hS0 w os) ⟨(PySem.W.Fast.tw12563942051412417395 hL1 hEnv).wrap doneF deadEnd id id,hCode,⟨105,0,105,8⟩,[topFrame hFp]⟩) os=some (.next,hS1 w os,hCode,⟨107,0,108,30⟩):=congrFun (hQ1 w) os
 rw[<-@PySem.W.Fast.te10110043849684766642, <-@PySem.W.Fast.te14364793385576792824, <-@PySem.W.Fast.te12563942051412417395] at t
 exact segRun_of t
theorem hQ3 (w:World):(fun os=>PySem.W.Fast.tw10110043849684766642 PySem.W.Fast.tw14364793385576792824 Challenge.pw_uc0057_02 w 11 hAnn 1 324 (hS2 w os) ⟨(PySem.W.Fast.tw12563942051412417395 hL3 hEnv).wrap doneF deadEnd id id,hCode,⟨109,0,109,13⟩,[topFrame hFp]⟩)=fun os=>some (.next,hS3 w os,hCode,⟨206,0,267,15⟩):=by kernel_rfl
theorem hG3 (w:World)(os:OsState):segRun treeTable Challenge.pw_uc0057_02 w 11 hAnn 1 324 (hS2 w os).abs ⟨(execs hL3 hEnv).wrap doneF deadEnd id id,hCode,⟨109,0,109,13⟩,[topFrame hFp]⟩=some (.next,(hS3 w os).abs,hCode,⟨206,0,267,15⟩):=by
 have t:(fun os=>PySem.W.Fast.tw10110043849684766642 PySem.W.Fast.tw14364793385576792824 Challenge.pw_uc0057_02 w 11 hAnn 1 324 (hS2 w os) ⟨(PySem.W.Fast.tw12563942051412417395 hL3 hEnv).wrap doneF deadEnd id id,hCode,⟨109,0,109,13⟩,[topFrame hFp]⟩) os=some (.next,hS3 w os,hCode,⟨206,0,267,15⟩):=congrFun (hQ3 w) os
 rw[<-@PySem.W.Fast.te10110043849684766642, <-@PySem.W.Fast.te14364793385576792824, <-@PySem.W.Fast.te12563942051412417395] at t
 exact segRun_of t
theorem hOpening:opening Challenge.pw_uc0057_02=plainProg Challenge.pw_uc0057_02.main.scope.names:=by rfl
theorem hFence:∀s,fenceModules? Challenge.pw_uc0057_02 s=some s:=fun s=>by rfl
theorem hOpen:∀w:World,(fencedOpening treeTable Challenge.pw_uc0057_02 w 40000).map (fun s=>(s.heap,s.gens,s.drawn,s.toks))=some (boot_heap w.params,Array.mk [],boot_drawn,boot_toks):=boot_open hOpening (by decide) hFence
theorem hSize (w:World):(((boot_heap w.params).isNs mainGlobals&&(Array.mk []:Array GenState).size==0,(boot_heap w.params).objs.size,(boot_heap w.params).nsMap mainGlobals "__annotations__"):Bool×Nat×Option Value)=(true,11,hAnn):=by kernel_rfl
theorem hPre (w:World):(fun os=>PySem.W.Fast.tw15667345088766844465 PySem.W.Fast.tw14364793385576792824 Challenge.pw_uc0057_02 w 11 hAnn 12 ⟨boot_heap w.params,Array.mk [],boot_drawn,boot_toks,os⟩ (topStub Challenge.pw_uc0057_02))=fun os=>some ((hSa w os).abs,⟨PySem.W.Fast.tw11892475500146522536 PySem.W.Fast.tw14364793385576792824 hCode,hCode,⟨0,0,0,0⟩,[topFrame hFp]⟩):=by kernel_rfl
theorem hBlock (w:World):(fun os=>segRun treeTable Challenge.pw_uc0057_02 w 11 hAnn 1 1 (hSa w os).abs (blockOf (behindTheImports Challenge.pw_uc0057_02) hEnv hCode ⟨0,0,0,0⟩ [topFrame hFp]))=fun os=>some (.next,(hSb w os).abs,hCode,⟨0,0,0,0⟩):=by kernel_rfl
noncomputable def hH (P:Params):Heap:=absHeap (hT3 P) 244 (hLife P)
noncomputable abbrev hFinS (w:World)(os:OsState):Shared:=⟨hH w.params,#[],boot_drawn,2472,os⟩
theorem hFin (w:World):(fun os=>topRun treeTable Challenge.pw_uc0057_02 w 11 hAnn 2 (hS3 w os).abs ⟨doneF .next,hCode,⟨206,0,267,15⟩,[topFrame hFp]⟩)=fun os=>some (hFinS w os):=by kernel_rfl
theorem hBody:behindTheImports Challenge.pw_uc0057_02=(hL0++(hL1++(hL2++(hL3++[])))):=by kernel_rfl
theorem hRun (w:World)(os:OsState):topRun treeTable Challenge.pw_uc0057_02 w 11 hAnn (12+(1+(872+(1028+(12525+(324+2)))))) ⟨boot_heap w.params,Array.mk [],boot_drawn,boot_toks,os⟩ (topStub Challenge.pw_uc0057_02)=some (hFinS w os):=by
 have hp:=congrFun (hPre w) os
 rw[<-@PySem.W.Fast.te15667345088766844465, <-@PySem.W.Fast.te14364793385576792824, <-@PySem.W.Fast.te11892475500146522536] at hp
 refine go_top hp (piece_block (congrFun (hBlock w) os) ?_)
 rw[hBody]
 refine piece_app (hG0 w os) ?_
 refine piece_app (hG1 w os) ?_
 refine piece_app (hG2 w os) ?_
 refine piece_app (hG3 w os) ?_
 exact piece_nil (congrFun (hFin w) os)
theorem hLk1 (w:World):staticsOk (importedModules Challenge.pw_uc0057_02.main.body) (boot_heap w.params) (hH w.params)=true:=by kernel_rfl
theorem hLk2 (w:World):namesBound Challenge.pw_uc0057_02 (hH w.params)=true:=by kernel_rfl
theorem hLk4 (w:World):laidKept (boot_heap w.params) (hH w.params)=true:=by kernel_rfl
theorem hLk5 (w:World):(fun os=>openSeen qv qLoose (importedModules Challenge.pw_uc0057_02.main.body) (fun s=>xlAt qv [] s&&recOk (RowW.records rowC.toRowW) s) true (hFinS w os))=fun _=>openGood qv qLoose:=by kernel_rfl
theorem hLk6 (w:World):(fun os=>hook.obs (hFinS w os))=fun _=>hook.val w:=by kernel_rfl
set_option tactic.hygienic true in
theorem hHead:LeftO Challenge.pw_uc0057_02 qv qLoose (fun s=>xlAt qv [] s&&recOk (RowW.records rowC.toRowW) s) hook.obs hook.val 40000:=by
 refine LeftO.of_pieces hOpen hSize hRun (by decide) (fun w=>funext fun os=>?_)
 have h1:(staticsOk (importedModules Challenge.pw_uc0057_02.main.body) (boot_heap w.params) (hH w.params)&&namesBound Challenge.pw_uc0057_02 (hH w.params)&&gensDone (hFinS w os)&&laidKept (boot_heap w.params) (hH w.params))=true:=by
  rw[hLk1,hLk2,hLk4];rfl
 have h2:=congrFun (hLk5 w) os
 have h3:=congrFun (hLk6 w) os
 exact Prod.ext h1 (Prod.ext h2 h3)
end Uc
end
theorem PySem.Challenge.cw_uc0057_02_holds : PySem.Challenge.rw_uc0057_02.Holds :=
  Uc.head_of Uc.hHead

import PyProof.Rows.All
import Wide.All
import OpenK.AllK
import Wide.FinOn
import Lean
import PySem.Challenge.RW_uc0057_01
open PySem PySem.W PyProof.Rows
open PySem.Str (ofString)
set_option Elab.async false
set_option compiler.extract_closed false
set_option genCtorIdx false
set_option maxRecDepth 100000
set_option linter.unusedVariables false
set_option maxHeartbeats 4000000
set_option tactic.hygienic false
local macro_rules | `(tactic| walk_at "O") => `(tactic| (first | lia | omega))
local macro_rules | `(tactic| omega) => `(tactic| lia)
namespace Uc
noncomputable def f0_args:Arguments:=by
 refine(?f:(?P:Prop)->Arguments) ?qh
 refine fun(_:Challenge.pw_uc0057_01.main.body[0]? =some (.FunctionDef ?qn ?qa ?qb ?qd ?qr ?qt ?qs ?qv ?qc ?qp))=>?qa
 case qh=>exact rfl
noncomputable def f0_body:List Stmt:=by
 refine(fun(_:Challenge.pw_uc0057_01.main.body[0]? =some (.FunctionDef ?qn ?qa ?qb ?qd ?qr ?qt ?qs ?qv ?qc ?qp))=>?qb) ?qh
 exact rfl
noncomputable def f0_scope:Scope:=by
 refine(?f:(?P:Prop)->Scope) ?qh
 refine fun(_:Challenge.pw_uc0057_01.main.body[0]? =some (.FunctionDef ?qn ?qa ?qb ?qd ?qr ?qt ?qs ?qv ?qc ?qp))=>?qs
 case qh=>exact rfl
noncomputable def f2_cbody:List Stmt:=by
 refine(fun(_:Challenge.pw_uc0057_01.main.body[2]? =some (.ClassDef ?qn ?qa ?qb ?qd ?qr ?qt ?qs ?qv ?qc ?qp ?qu))=>?qd) ?qh
 exact rfl
noncomputable def f2m0_args:Arguments:=by
 refine(?f:(?P:Prop)->Arguments) ?qh
 refine fun(_:f2_cbody[0]? =some (.FunctionDef ?qn ?qa ?qb ?qd ?qr ?qt ?qs ?qv ?qc ?qp))=>?qa
 case qh=>exact rfl
noncomputable def f2m0_body:List Stmt:=by
 refine(fun(_:f2_cbody[0]? =some (.FunctionDef ?qn ?qa ?qb ?qd ?qr ?qt ?qs ?qv ?qc ?qp))=>?qb) ?qh
 exact rfl
noncomputable def f2m0_scope:Scope:=by
 refine(?f:(?P:Prop)->Scope) ?qh
 refine fun(_:f2_cbody[0]? =some (.FunctionDef ?qn ?qa ?qb ?qd ?qr ?qt ?qs ?qv ?qc ?qp))=>?qs
 case qh=>exact rfl
noncomputable def f2m1_args:Arguments:=by
 refine(?f:(?P:Prop)->Arguments) ?qh
 refine fun(_:f2_cbody[1]? =some (.FunctionDef ?qn ?qa ?qb ?qd ?qr ?qt ?qs ?qv ?qc ?qp))=>?qa
 case qh=>exact rfl
noncomputable def f2m1_body:List Stmt:=by
 refine(fun(_:f2_cbody[1]? =some (.FunctionDef ?qn ?qa ?qb ?qd ?qr ?qt ?qs ?qv ?qc ?qp))=>?qb) ?qh
 exact rfl
noncomputable def f2m1_scope:Scope:=by
 refine(?f:(?P:Prop)->Scope) ?qh
 refine fun(_:f2_cbody[1]? =some (.FunctionDef ?qn ?qa ?qb ?qd ?qr ?qt ?qs ?qv ?qc ?qp))=>?qs
 case qh=>exact rfl
noncomputable def f2m2_args:Arguments:=by
 refine(?f:(?P:Prop)->Arguments) ?qh
 refine fun(_:f2_cbody[2]? =some (.FunctionDef ?qn ?qa ?qb ?qd ?qr ?qt ?qs ?qv ?qc ?qp))=>?qa
 case qh=>exact rfl
noncomputable def f2m2_body:List Stmt:=by
 refine(fun(_:f2_cbody[2]? =some (.FunctionDef ?qn ?qa ?qb ?qd ?qr ?qt ?qs ?qv ?qc ?qp))=>?qb) ?qh
 exact rfl
noncomputable def f2m2_scope:Scope:=by
 refine(?f:(?P:Prop)->Scope) ?qh
 refine fun(_:f2_cbody[2]? =some (.FunctionDef ?qn ?qa ?qb ?qd ?qr ?qt ?qs ?qv ?qc ?qp))=>?qs
 case qh=>exact rfl
noncomputable def f2m3_args:Arguments:=by
 refine(?f:(?P:Prop)->Arguments) ?qh
 refine fun(_:f2_cbody[3]? =some (.FunctionDef ?qn ?qa ?qb ?qd ?qr ?qt ?qs ?qv ?qc ?qp))=>?qa
 case qh=>exact rfl
noncomputable def f2m3_body:List Stmt:=by
 refine(fun(_:f2_cbody[3]? =some (.FunctionDef ?qn ?qa ?qb ?qd ?qr ?qt ?qs ?qv ?qc ?qp))=>?qb) ?qh
 exact rfl
noncomputable def f2m3_scope:Scope:=by
 refine(?f:(?P:Prop)->Scope) ?qh
 refine fun(_:f2_cbody[3]? =some (.FunctionDef ?qn ?qa ?qb ?qd ?qr ?qt ?qs ?qv ?qc ?qp))=>?qs
 case qh=>exact rfl
noncomputable def f5_args:Arguments:=by
 refine(?f:(?P:Prop)->Arguments) ?qh
 refine fun(_:Challenge.pw_uc0057_01.main.body[5]? =some (.FunctionDef ?qn ?qa ?qb ?qd ?qr ?qt ?qs ?qv ?qc ?qp))=>?qa
 case qh=>exact rfl
noncomputable def f5_body:List Stmt:=by
 refine(fun(_:Challenge.pw_uc0057_01.main.body[5]? =some (.FunctionDef ?qn ?qa ?qb ?qd ?qr ?qt ?qs ?qv ?qc ?qp))=>?qb) ?qh
 exact rfl
noncomputable def f5_scope:Scope:=by
 refine(?f:(?P:Prop)->Scope) ?qh
 refine fun(_:Challenge.pw_uc0057_01.main.body[5]? =some (.FunctionDef ?qn ?qa ?qb ?qd ?qr ?qt ?qs ?qv ?qc ?qp))=>?qs
 case qh=>exact rfl
noncomputable def f7_args:Arguments:=by
 refine(?f:(?P:Prop)->Arguments) ?qh
 refine fun(_:Challenge.pw_uc0057_01.main.body[7]? =some (.FunctionDef ?qn ?qa ?qb ?qd ?qr ?qt ?qs ?qv ?qc ?qp))=>?qa
 case qh=>exact rfl
noncomputable def f7_body:List Stmt:=by
 refine(fun(_:Challenge.pw_uc0057_01.main.body[7]? =some (.FunctionDef ?qn ?qa ?qb ?qd ?qr ?qt ?qs ?qv ?qc ?qp))=>?qb) ?qh
 exact rfl
noncomputable def f7_scope:Scope:=by
 refine(?f:(?P:Prop)->Scope) ?qh
 refine fun(_:Challenge.pw_uc0057_01.main.body[7]? =some (.FunctionDef ?qn ?qa ?qb ?qd ?qr ?qt ?qs ?qv ?qc ?qp))=>?qs
 case qh=>exact rfl
noncomputable def f9_cbody:List Stmt:=by
 refine(fun(_:Challenge.pw_uc0057_01.main.body[9]? =some (.ClassDef ?qn ?qa ?qb ?qd ?qr ?qt ?qs ?qv ?qc ?qp ?qu))=>?qd) ?qh
 exact rfl
noncomputable def f9m1_args:Arguments:=by
 refine(?f:(?P:Prop)->Arguments) ?qh
 refine fun(_:f9_cbody[1]? =some (.FunctionDef ?qn ?qa ?qb ?qd ?qr ?qt ?qs ?qv ?qc ?qp))=>?qa
 case qh=>exact rfl
noncomputable def f9m1_body:List Stmt:=by
 refine(fun(_:f9_cbody[1]? =some (.FunctionDef ?qn ?qa ?qb ?qd ?qr ?qt ?qs ?qv ?qc ?qp))=>?qb) ?qh
 exact rfl
noncomputable def f9m1_scope:Scope:=by
 refine(?f:(?P:Prop)->Scope) ?qh
 refine fun(_:f9_cbody[1]? =some (.FunctionDef ?qn ?qa ?qb ?qd ?qr ?qt ?qs ?qv ?qc ?qp))=>?qs
 case qh=>exact rfl
noncomputable def f9m2_args:Arguments:=by
 refine(?f:(?P:Prop)->Arguments) ?qh
 refine fun(_:f9_cbody[2]? =some (.FunctionDef ?qn ?qa ?qb ?qd ?qr ?qt ?qs ?qv ?qc ?qp))=>?qa
 case qh=>exact rfl
noncomputable def f9m2_body:List Stmt:=by
 refine(fun(_:f9_cbody[2]? =some (.FunctionDef ?qn ?qa ?qb ?qd ?qr ?qt ?qs ?qv ?qc ?qp))=>?qb) ?qh
 exact rfl
noncomputable def f9m2_scope:Scope:=by
 refine(?f:(?P:Prop)->Scope) ?qh
 refine fun(_:f9_cbody[2]? =some (.FunctionDef ?qn ?qa ?qb ?qd ?qr ?qt ?qs ?qv ?qc ?qp))=>?qs
 case qh=>exact rfl
noncomputable def f9m3_args:Arguments:=by
 refine(?f:(?P:Prop)->Arguments) ?qh
 refine fun(_:f9_cbody[3]? =some (.FunctionDef ?qn ?qa ?qb ?qd ?qr ?qt ?qs ?qv ?qc ?qp))=>?qa
 case qh=>exact rfl
noncomputable def f9m3_body:List Stmt:=by
 refine(fun(_:f9_cbody[3]? =some (.FunctionDef ?qn ?qa ?qb ?qd ?qr ?qt ?qs ?qv ?qc ?qp))=>?qb) ?qh
 exact rfl
noncomputable def f9m3_scope:Scope:=by
 refine(?f:(?P:Prop)->Scope) ?qh
 refine fun(_:f9_cbody[3]? =some (.FunctionDef ?qn ?qa ?qb ?qd ?qr ?qt ?qs ?qv ?qc ?qp))=>?qs
 case qh=>exact rfl
noncomputable def f9m4_args:Arguments:=by
 refine(?f:(?P:Prop)->Arguments) ?qh
 refine fun(_:f9_cbody[4]? =some (.FunctionDef ?qn ?qa ?qb ?qd ?qr ?qt ?qs ?qv ?qc ?qp))=>?qa
 case qh=>exact rfl
noncomputable def f9m4_body:List Stmt:=by
 refine(fun(_:f9_cbody[4]? =some (.FunctionDef ?qn ?qa ?qb ?qd ?qr ?qt ?qs ?qv ?qc ?qp))=>?qb) ?qh
 exact rfl
noncomputable def f9m4_scope:Scope:=by
 refine(?f:(?P:Prop)->Scope) ?qh
 refine fun(_:f9_cbody[4]? =some (.FunctionDef ?qn ?qa ?qb ?qd ?qr ?qt ?qs ?qv ?qc ?qp))=>?qs
 case qh=>exact rfl
noncomputable def f9m5_args:Arguments:=by
 refine(?f:(?P:Prop)->Arguments) ?qh
 refine fun(_:f9_cbody[5]? =some (.FunctionDef ?qn ?qa ?qb ?qd ?qr ?qt ?qs ?qv ?qc ?qp))=>?qa
 case qh=>exact rfl
noncomputable def f9m5_body:List Stmt:=by
 refine(fun(_:f9_cbody[5]? =some (.FunctionDef ?qn ?qa ?qb ?qd ?qr ?qt ?qs ?qv ?qc ?qp))=>?qb) ?qh
 exact rfl
noncomputable def f9m5_scope:Scope:=by
 refine(?f:(?P:Prop)->Scope) ?qh
 refine fun(_:f9_cbody[5]? =some (.FunctionDef ?qn ?qa ?qb ?qd ?qr ?qt ?qs ?qv ?qc ?qp))=>?qs
 case qh=>exact rfl
noncomputable def f9m6_args:Arguments:=by
 refine(?f:(?P:Prop)->Arguments) ?qh
 refine fun(_:f9_cbody[6]? =some (.FunctionDef ?qn ?qa ?qb ?qd ?qr ?qt ?qs ?qv ?qc ?qp))=>?qa
 case qh=>exact rfl
noncomputable def f9m6_body:List Stmt:=by
 refine(fun(_:f9_cbody[6]? =some (.FunctionDef ?qn ?qa ?qb ?qd ?qr ?qt ?qs ?qv ?qc ?qp))=>?qb) ?qh
 exact rfl
noncomputable def f9m6_scope:Scope:=by
 refine(?f:(?P:Prop)->Scope) ?qh
 refine fun(_:f9_cbody[6]? =some (.FunctionDef ?qn ?qa ?qb ?qd ?qr ?qt ?qs ?qv ?qc ?qp))=>?qs
 case qh=>exact rfl
noncomputable def f9m7_args:Arguments:=by
 refine(?f:(?P:Prop)->Arguments) ?qh
 refine fun(_:f9_cbody[7]? =some (.FunctionDef ?qn ?qa ?qb ?qd ?qr ?qt ?qs ?qv ?qc ?qp))=>?qa
 case qh=>exact rfl
noncomputable def f9m7_body:List Stmt:=by
 refine(fun(_:f9_cbody[7]? =some (.FunctionDef ?qn ?qa ?qb ?qd ?qr ?qt ?qs ?qv ?qc ?qp))=>?qb) ?qh
 exact rfl
noncomputable def f9m7_scope:Scope:=by
 refine(?f:(?P:Prop)->Scope) ?qh
 refine fun(_:f9_cbody[7]? =some (.FunctionDef ?qn ?qa ?qb ?qd ?qr ?qt ?qs ?qv ?qc ?qp))=>?qs
 case qh=>exact rfl
noncomputable def f14_args:Arguments:=by
 refine(?f:(?P:Prop)->Arguments) ?qh
 refine fun(_:Challenge.pw_uc0057_01.main.body[14]? =some (.FunctionDef ?qn ?qa ?qb ?qd ?qr ?qt ?qs ?qv ?qc ?qp))=>?qa
 case qh=>exact rfl
noncomputable def f14_body:List Stmt:=by
 refine(fun(_:Challenge.pw_uc0057_01.main.body[14]? =some (.FunctionDef ?qn ?qa ?qb ?qd ?qr ?qt ?qs ?qv ?qc ?qp))=>?qb) ?qh
 exact rfl
noncomputable def f14_scope:Scope:=by
 refine(?f:(?P:Prop)->Scope) ?qh
 refine fun(_:Challenge.pw_uc0057_01.main.body[14]? =some (.FunctionDef ?qn ?qa ?qb ?qd ?qr ?qt ?qs ?qv ?qc ?qp))=>?qs
 case qh=>exact rfl
noncomputable def f15_args:Arguments:=by
 refine(?f:(?P:Prop)->Arguments) ?qh
 refine fun(_:Challenge.pw_uc0057_01.main.body[15]? =some (.FunctionDef ?qn ?qa ?qb ?qd ?qr ?qt ?qs ?qv ?qc ?qp))=>?qa
 case qh=>exact rfl
noncomputable def f15_body:List Stmt:=by
 refine(fun(_:Challenge.pw_uc0057_01.main.body[15]? =some (.FunctionDef ?qn ?qa ?qb ?qd ?qr ?qt ?qs ?qv ?qc ?qp))=>?qb) ?qh
 exact rfl
noncomputable def f15_scope:Scope:=by
 refine(?f:(?P:Prop)->Scope) ?qh
 refine fun(_:Challenge.pw_uc0057_01.main.body[15]? =some (.FunctionDef ?qn ?qa ?qb ?qd ?qr ?qt ?qs ?qv ?qc ?qp))=>?qs
 case qh=>exact rfl
noncomputable def f17_args:Arguments:=by
 refine(?f:(?P:Prop)->Arguments) ?qh
 refine fun(_:Challenge.pw_uc0057_01.main.body[17]? =some (.FunctionDef ?qn ?qa ?qb ?qd ?qr ?qt ?qs ?qv ?qc ?qp))=>?qa
 case qh=>exact rfl
noncomputable def f17_body:List Stmt:=by
 refine(fun(_:Challenge.pw_uc0057_01.main.body[17]? =some (.FunctionDef ?qn ?qa ?qb ?qd ?qr ?qt ?qs ?qv ?qc ?qp))=>?qb) ?qh
 exact rfl
noncomputable def f17_scope:Scope:=by
 refine(?f:(?P:Prop)->Scope) ?qh
 refine fun(_:Challenge.pw_uc0057_01.main.body[17]? =some (.FunctionDef ?qn ?qa ?qb ?qd ?qr ?qt ?qs ?qv ?qc ?qp))=>?qs
 case qh=>exact rfl
noncomputable def f18_args:Arguments:=by
 refine(?f:(?P:Prop)->Arguments) ?qh
 refine fun(_:Challenge.pw_uc0057_01.main.body[18]? =some (.FunctionDef ?qn ?qa ?qb ?qd ?qr ?qt ?qs ?qv ?qc ?qp))=>?qa
 case qh=>exact rfl
noncomputable def f18_body:List Stmt:=by
 refine(fun(_:Challenge.pw_uc0057_01.main.body[18]? =some (.FunctionDef ?qn ?qa ?qb ?qd ?qr ?qt ?qs ?qv ?qc ?qp))=>?qb) ?qh
 exact rfl
noncomputable def f18_scope:Scope:=by
 refine(?f:(?P:Prop)->Scope) ?qh
 refine fun(_:Challenge.pw_uc0057_01.main.body[18]? =some (.FunctionDef ?qn ?qa ?qb ?qd ?qr ?qt ?qs ?qv ?qc ?qp))=>?qs
 case qh=>exact rfl
noncomputable def f19_args:Arguments:=by
 refine(?f:(?P:Prop)->Arguments) ?qh
 refine fun(_:Challenge.pw_uc0057_01.main.body[19]? =some (.FunctionDef ?qn ?qa ?qb ?qd ?qr ?qt ?qs ?qv ?qc ?qp))=>?qa
 case qh=>exact rfl
noncomputable def f19_body:List Stmt:=by
 refine(fun(_:Challenge.pw_uc0057_01.main.body[19]? =some (.FunctionDef ?qn ?qa ?qb ?qd ?qr ?qt ?qs ?qv ?qc ?qp))=>?qb) ?qh
 exact rfl
noncomputable def f19_scope:Scope:=by
 refine(?f:(?P:Prop)->Scope) ?qh
 refine fun(_:Challenge.pw_uc0057_01.main.body[19]? =some (.FunctionDef ?qn ?qa ?qb ?qd ?qr ?qt ?qs ?qv ?qc ?qp))=>?qs
 case qh=>exact rfl
noncomputable def f20_args:Arguments:=by
 refine(?f:(?P:Prop)->Arguments) ?qh
 refine fun(_:Challenge.pw_uc0057_01.main.body[20]? =some (.FunctionDef ?qn ?qa ?qb ?qd ?qr ?qt ?qs ?qv ?qc ?qp))=>?qa
 case qh=>exact rfl
noncomputable def f20_body:List Stmt:=by
 refine(fun(_:Challenge.pw_uc0057_01.main.body[20]? =some (.FunctionDef ?qn ?qa ?qb ?qd ?qr ?qt ?qs ?qv ?qc ?qp))=>?qb) ?qh
 exact rfl
noncomputable def f20_scope:Scope:=by
 refine(?f:(?P:Prop)->Scope) ?qh
 refine fun(_:Challenge.pw_uc0057_01.main.body[20]? =some (.FunctionDef ?qn ?qa ?qb ?qd ?qr ?qt ?qs ?qv ?qc ?qp))=>?qs
 case qh=>exact rfl
noncomputable def f21_args:Arguments:=by
 refine(?f:(?P:Prop)->Arguments) ?qh
 refine fun(_:Challenge.pw_uc0057_01.main.body[21]? =some (.FunctionDef ?qn ?qa ?qb ?qd ?qr ?qt ?qs ?qv ?qc ?qp))=>?qa
 case qh=>exact rfl
noncomputable def f21_body:List Stmt:=by
 refine(fun(_:Challenge.pw_uc0057_01.main.body[21]? =some (.FunctionDef ?qn ?qa ?qb ?qd ?qr ?qt ?qs ?qv ?qc ?qp))=>?qb) ?qh
 exact rfl
noncomputable def f21_scope:Scope:=by
 refine(?f:(?P:Prop)->Scope) ?qh
 refine fun(_:Challenge.pw_uc0057_01.main.body[21]? =some (.FunctionDef ?qn ?qa ?qb ?qd ?qr ?qt ?qs ?qv ?qc ?qp))=>?qs
 case qh=>exact rfl
noncomputable def f22_args:Arguments:=by
 refine(?f:(?P:Prop)->Arguments) ?qh
 refine fun(_:Challenge.pw_uc0057_01.main.body[22]? =some (.FunctionDef ?qn ?qa ?qb ?qd ?qr ?qt ?qs ?qv ?qc ?qp))=>?qa
 case qh=>exact rfl
noncomputable def f22_body:List Stmt:=by
 refine(fun(_:Challenge.pw_uc0057_01.main.body[22]? =some (.FunctionDef ?qn ?qa ?qb ?qd ?qr ?qt ?qs ?qv ?qc ?qp))=>?qb) ?qh
 exact rfl
noncomputable def f22_scope:Scope:=by
 refine(?f:(?P:Prop)->Scope) ?qh
 refine fun(_:Challenge.pw_uc0057_01.main.body[22]? =some (.FunctionDef ?qn ?qa ?qb ?qd ?qr ?qt ?qs ?qv ?qc ?qp))=>?qs
 case qh=>exact rfl
noncomputable def f23_args:Arguments:=by
 refine(?f:(?P:Prop)->Arguments) ?qh
 refine fun(_:Challenge.pw_uc0057_01.main.body[23]? =some (.FunctionDef ?qn ?qa ?qb ?qd ?qr ?qt ?qs ?qv ?qc ?qp))=>?qa
 case qh=>exact rfl
noncomputable def f23_body:List Stmt:=by
 refine(fun(_:Challenge.pw_uc0057_01.main.body[23]? =some (.FunctionDef ?qn ?qa ?qb ?qd ?qr ?qt ?qs ?qv ?qc ?qp))=>?qb) ?qh
 exact rfl
noncomputable def f23_scope:Scope:=by
 refine(?f:(?P:Prop)->Scope) ?qh
 refine fun(_:Challenge.pw_uc0057_01.main.body[23]? =some (.FunctionDef ?qn ?qa ?qb ?qd ?qr ?qt ?qs ?qv ?qc ?qp))=>?qs
 case qh=>exact rfl
noncomputable def o3 (P:Params):Obj:=⟨(.type "dict"),none,(.dict [⟨PyData.keyHash P (ofString "__name__"),(.str (ofString "__name__") 165),(.str (ofString "law_uc0057_01") 2414)⟩,⟨PyData.keyHash P (ofString "__doc__"),(.str (ofString "__doc__") 166),.none⟩,⟨PyData.keyHash P (ofString "__package__"),(.str (ofString "__package__") 167),.none⟩,⟨PyData.keyHash P (ofString "__loader__"),(.str (ofString "__loader__") 168),(.builtin "__main__.__loader__#opaque")⟩,⟨PyData.keyHash P (ofString "__spec__"),(.str (ofString "__spec__") 169),.none⟩,⟨PyData.keyHash P (ofString "__annotations__"),(.str (ofString "__annotations__") 170),(.ref 6)⟩,⟨PyData.keyHash P (ofString "__builtins__"),(.str (ofString "__builtins__") 171),(.ref 4)⟩,⟨PyData.keyHash P (ofString "__file__"),(.str (ofString "__file__") 173),(.str (ofString "/claim/cut.py") 172)⟩,⟨PyData.keyHash P (ofString "__cached__"),(.str (ofString "__cached__") 174),.none⟩,⟨PyData.keyHash P (ofString "_wall"),(.str (ofString "_wall") 193),(.ref 21)⟩,⟨PyData.keyHash P (ofString "_netrclex"),(.str (ofString "_netrclex") 253),(.ref 59)⟩,⟨PyData.keyHash P (ofString "b1_set"),(.str (ofString "b1_set") 315),(.ref 71)⟩,⟨PyData.keyHash P (ofString "in_table_b1"),(.str (ofString "in_table_b1") 322),(.ref 81)⟩,⟨PyData.keyHash P (ofString "b3_exceptions"),(.str (ofString "b3_exceptions") 2273),(.ref 82)⟩,⟨PyData.keyHash P (ofString "map_table_b3"),(.str (ofString "map_table_b3") 2281),(.ref 127)⟩,⟨PyData.keyHash P (ofString "Whitespace"),(.str (ofString "Whitespace") 2377),(.ref 189)⟩,⟨PyData.keyHash P (ofString "_MAX_STRING_SIZE"),(.str (ofString "_MAX_STRING_SIZE") 2381),(.int (40) 2380)⟩,⟨PyData.keyHash P (ofString "_MOVE_COST"),(.str (ofString "_MOVE_COST") 2383),(.int (2) 2382)⟩,⟨PyData.keyHash P (ofString "_CASE_COST"),(.str (ofString "_CASE_COST") 2385),(.int (1) 2384)⟩,⟨PyData.keyHash P (ofString "_substitution_cost"),(.str (ofString "_substitution_cost") 2393),(.ref 200)⟩,⟨PyData.keyHash P (ofString "_levenshtein_distance"),(.str (ofString "_levenshtein_distance") 2413),(.ref 207)⟩,⟨PyData.keyHash P (ofString "_law_lexer"),(.str (ofString "_law_lexer") 2424),(.ref 214)⟩,⟨PyData.keyHash P (ofString "_law_spelled"),(.str (ofString "_law_spelled") 2430),(.ref 219)⟩,⟨PyData.keyHash P (ofString "_law_kept"),(.str (ofString "_law_kept") 2436),(.ref 224)⟩,⟨PyData.keyHash P (ofString "_law_small"),(.str (ofString "_law_small") 2442),(.ref 229)⟩,⟨PyData.keyHash P (ofString "_law_lead"),(.str (ofString "_law_lead") 2448),(.ref 234)⟩,⟨PyData.keyHash P (ofString "_law_due"),(.str (ofString "_law_due") 2454),(.ref 239)⟩,⟨PyData.keyHash P (ofString "law"),(.str (ofString "law") 2460),(.ref 244)⟩].toArray 28),[].toArray⟩
noncomputable def o4 (P:Params):Obj:=⟨(.type "module"),(some 0),.plain,[].toArray⟩
noncomputable def o5 (P:Params):Obj:=⟨(.type "module"),(some 3),.plain,[].toArray⟩
noncomputable def o6 (P:Params):Obj:=⟨(.type "dict"),none,(.dict [].toArray 0),[].toArray⟩
noncomputable def o7 (P:Params):Obj:=⟨(.type "tuple"),none,(.seq [].toArray 0),[].toArray⟩
noncomputable def o9 (P:Params):Obj:=⟨(.type "code"),none,(.fields [(.str (ofString "<module>") 176),(.str (ofString "<module>") 177),(.str (ofString "/claim/cut.py") 178),(.int (1) 0),(.int (0) 0),(.int (0) 0),(.int (0) 0),(.int (0) 0),(.ref 7),(.bool false),(.int (175) 0),(.ref 8),.none,.none,.none,.none,(.int (179) 0),(.int (1) 0),(.str (ofString "/claim/cut.py") 180)].toArray),[].toArray⟩
noncomputable def o10 (P:Params):Obj:=⟨(.type "frame"),none,.plain,[(some (.ref 9)),(some (.ref 3)),(some (.ref 3)),none,(some (.str (ofString "__main__") 164)),none,(some (.ref 0))].toArray⟩
noncomputable def o11 (P:Params):Obj:=⟨(.type "tuple"),none,(.seq [].toArray 0),[].toArray⟩
noncomputable def o13 (P:Params):Obj:=⟨(.type "code"),none,(.fields [(.str (ofString "<module>") 182),(.str (ofString "<module>") 183),(.str (ofString "/claim/cut.py") 184),(.int (1) 0),(.int (0) 0),(.int (0) 0),(.int (0) 0),(.int (0) 0),(.ref 11),(.bool false),(.int (181) 0),(.ref 12),.none,.none,.none,.none,(.int (185) 0),(.int (1) 0),(.str (ofString "/claim/cut.py") 186)].toArray),[].toArray⟩
noncomputable def o14 (P:Params):Obj:=⟨(.type "frame"),none,.plain,[(some (.ref 13)),(some (.ref 3)),(some (.ref 3)),none,(some (.str (ofString "__main__") 164)),none,(some (.ref 0))].toArray⟩
noncomputable def o15 (P:Params):Obj:=⟨(.type "tuple"),none,(.seq [].toArray 0),[].toArray⟩
noncomputable def o17 (P:Params):Obj:=⟨(.type "tuple"),none,(.seq [(.str (ofString "k") 190)].toArray 0),[].toArray⟩
noncomputable def o18 (P:Params):Obj:=⟨(.type "tuple"),none,(.seq [].toArray 0),[].toArray⟩
noncomputable def o20 (P:Params):Obj:=⟨(.type "code"),none,(.fields [(.str (ofString "_wall") 187),(.str (ofString "_wall") 188),(.str (ofString "/claim/cut.py") 189),(.int (1) 0),(.int (1) 0),(.int (0) 0),(.int (0) 0),(.int (3) 0),(.ref 15),(.bool true),(.int (181) 0),(.ref 16),.none,(.ref 17),(.ref 18),(.ref 19),(.int (191) 0),(.int (1) 0),(.str (ofString "/claim/cut.py") 192)].toArray),[].toArray⟩
noncomputable def o21 (P:Params):Obj:=⟨(.type "function"),none,(.func { name:=(ofString "_wall"),qualname:=(ofString "_wall"),params:=f0_args,body:=.stmts f0_body,scope:=f0_scope,globals:=3,closure:=[],defaults:=.none,kwdefaults:=.none,doc:=.none,pyModule:=(.str (ofString "__main__") 164),annotations:=none,code:=(.ref 20),closureTuple:=.none,builtins:=0 }),[].toArray⟩
noncomputable def o22 (P:Params):Obj:=⟨(.type "tuple"),none,(.seq [].toArray 0),[].toArray⟩
noncomputable def o23 (P:Params):Obj:=⟨(.type "builtin_function_or_method"),none,(.fields [(.builtin "type.__prepare__"),(.type "type")].toArray),[].toArray⟩
noncomputable def o24 (P:Params):Obj:=⟨(.type "dict"),none,(.dict [⟨PyData.keyHash P (ofString "__module__"),(.str (ofString "__module__") 203),(.str (ofString "cpy313.netrc") 194)⟩,⟨PyData.keyHash P (ofString "__qualname__"),(.str (ofString "__qualname__") 205),(.str (ofString "_netrclex") 204)⟩,⟨PyData.keyHash P (ofString "__firstlineno__"),(.str (ofString "__firstlineno__") 207),(.int (5) 206)⟩,⟨PyData.keyHash P (ofString "__init__"),(.str (ofString "__init__") 215),(.ref 35)⟩,⟨PyData.keyHash P (ofString "_read_char"),(.str (ofString "_read_char") 223),(.ref 42)⟩,⟨PyData.keyHash P (ofString "get_token"),(.str (ofString "get_token") 233),(.ref 49)⟩,⟨PyData.keyHash P (ofString "push_token"),(.str (ofString "push_token") 241),(.ref 56)⟩,⟨PyData.keyHash P (ofString "__static_attributes__"),(.str (ofString "__static_attributes__") 246),(.ref 57)⟩].toArray 8),[].toArray⟩
noncomputable def o25 (P:Params):Obj:=⟨(.type "tuple"),none,(.seq [].toArray 0),[].toArray⟩
noncomputable def o27 (P:Params):Obj:=⟨(.type "code"),none,(.fields [(.str (ofString "_netrclex") 198),(.str (ofString "_netrclex") 199),(.str (ofString "/claim/cut.py") 200),(.int (5) 0),(.int (0) 0),(.int (0) 0),(.int (0) 0),(.int (0) 0),(.ref 25),(.bool false),(.int (181) 0),(.ref 26),.none,.none,.none,.none,(.int (201) 0),(.int (5) 0),(.str (ofString "/claim/cut.py") 202)].toArray),[].toArray⟩
noncomputable def o28 (P:Params):Obj:=⟨(.type "frame"),none,.plain,[(some (.ref 27)),(some (.ref 3)),(some (.ref 24)),none,(some (.str (ofString "cpy313.netrc") 194)),none,(some (.ref 0))].toArray⟩
noncomputable def o29 (P:Params):Obj:=⟨(.type "tuple"),none,(.seq [].toArray 0),[].toArray⟩
noncomputable def o31 (P:Params):Obj:=⟨(.type "tuple"),none,(.seq [(.str (ofString "self") 211),(.str (ofString "fp") 212)].toArray 0),[].toArray⟩
noncomputable def o32 (P:Params):Obj:=⟨(.type "tuple"),none,(.seq [].toArray 0),[].toArray⟩
noncomputable def o34 (P:Params):Obj:=⟨(.type "code"),none,(.fields [(.str (ofString "__init__") 208),(.str (ofString "_netrclex.__init__") 209),(.str (ofString "/claim/cut.py") 210),(.int (7) 0),(.int (2) 0),(.int (0) 0),(.int (0) 0),(.int (3) 0),(.ref 29),(.bool true),(.int (181) 0),(.ref 30),.none,(.ref 31),(.ref 32),(.ref 33),(.int (213) 0),(.int (7) 0),(.str (ofString "/claim/cut.py") 214)].toArray),[].toArray⟩
noncomputable def o35 (P:Params):Obj:=⟨(.type "function"),none,(.func { name:=(ofString "__init__"),qualname:=(ofString "_netrclex.__init__"),params:=f2m0_args,body:=.stmts f2m0_body,scope:=f2m0_scope,globals:=3,closure:=[],defaults:=.none,kwdefaults:=.none,doc:=.none,pyModule:=(.str (ofString "cpy313.netrc") 194),annotations:=none,code:=(.ref 34),closureTuple:=.none,builtins:=0 }),[].toArray⟩
noncomputable def o36 (P:Params):Obj:=⟨(.type "tuple"),none,(.seq [].toArray 0),[].toArray⟩
noncomputable def o38 (P:Params):Obj:=⟨(.type "tuple"),none,(.seq [(.str (ofString "self") 219),(.str (ofString "ch") 220)].toArray 0),[].toArray⟩
noncomputable def o39 (P:Params):Obj:=⟨(.type "tuple"),none,(.seq [].toArray 0),[].toArray⟩
noncomputable def o41 (P:Params):Obj:=⟨(.type "code"),none,(.fields [(.str (ofString "_read_char") 216),(.str (ofString "_netrclex._read_char") 217),(.str (ofString "/claim/cut.py") 218),(.int (13) 0),(.int (1) 0),(.int (0) 0),(.int (0) 0),(.int (3) 0),(.ref 36),(.bool true),(.int (181) 0),(.ref 37),.none,(.ref 38),(.ref 39),(.ref 40),(.int (221) 0),(.int (13) 0),(.str (ofString "/claim/cut.py") 222)].toArray),[].toArray⟩
noncomputable def o42 (P:Params):Obj:=⟨(.type "function"),none,(.func { name:=(ofString "_read_char"),qualname:=(ofString "_netrclex._read_char"),params:=f2m1_args,body:=.stmts f2m1_body,scope:=f2m1_scope,globals:=3,closure:=[],defaults:=.none,kwdefaults:=.none,doc:=.none,pyModule:=(.str (ofString "cpy313.netrc") 194),annotations:=none,code:=(.ref 41),closureTuple:=.none,builtins:=0 }),[].toArray⟩
noncomputable def o43 (P:Params):Obj:=⟨(.type "tuple"),none,(.seq [].toArray 0),[].toArray⟩
noncomputable def o45 (P:Params):Obj:=⟨(.type "tuple"),none,(.seq [(.str (ofString "self") 227),(.str (ofString "token") 228),(.str (ofString "fiter") 229),(.str (ofString "ch") 230)].toArray 0),[].toArray⟩
noncomputable def o46 (P:Params):Obj:=⟨(.type "tuple"),none,(.seq [].toArray 0),[].toArray⟩
noncomputable def o48 (P:Params):Obj:=⟨(.type "code"),none,(.fields [(.str (ofString "get_token") 224),(.str (ofString "_netrclex.get_token") 225),(.str (ofString "/claim/cut.py") 226),(.int (19) 0),(.int (1) 0),(.int (0) 0),(.int (0) 0),(.int (3) 0),(.ref 43),(.bool true),(.int (181) 0),(.ref 44),.none,(.ref 45),(.ref 46),(.ref 47),(.int (231) 0),(.int (19) 0),(.str (ofString "/claim/cut.py") 232)].toArray),[].toArray⟩
noncomputable def o49 (P:Params):Obj:=⟨(.type "function"),none,(.func { name:=(ofString "get_token"),qualname:=(ofString "_netrclex.get_token"),params:=f2m2_args,body:=.stmts f2m2_body,scope:=f2m2_scope,globals:=3,closure:=[],defaults:=.none,kwdefaults:=.none,doc:=.none,pyModule:=(.str (ofString "cpy313.netrc") 194),annotations:=none,code:=(.ref 48),closureTuple:=.none,builtins:=0 }),[].toArray⟩
noncomputable def o50 (P:Params):Obj:=⟨(.type "tuple"),none,(.seq [].toArray 0),[].toArray⟩
noncomputable def o52 (P:Params):Obj:=⟨(.type "tuple"),none,(.seq [(.str (ofString "self") 237),(.str (ofString "token") 238)].toArray 0),[].toArray⟩
noncomputable def o53 (P:Params):Obj:=⟨(.type "tuple"),none,(.seq [].toArray 0),[].toArray⟩
noncomputable def o55 (P:Params):Obj:=⟨(.type "code"),none,(.fields [(.str (ofString "push_token") 234),(.str (ofString "_netrclex.push_token") 235),(.str (ofString "/claim/cut.py") 236),(.int (46) 0),(.int (2) 0),(.int (0) 0),(.int (0) 0),(.int (3) 0),(.ref 50),(.bool true),(.int (181) 0),(.ref 51),.none,(.ref 52),(.ref 53),(.ref 54),(.int (239) 0),(.int (46) 0),(.str (ofString "/claim/cut.py") 240)].toArray),[].toArray⟩
noncomputable def o56 (P:Params):Obj:=⟨(.type "function"),none,(.func { name:=(ofString "push_token"),qualname:=(ofString "_netrclex.push_token"),params:=f2m3_args,body:=.stmts f2m3_body,scope:=f2m3_scope,globals:=3,closure:=[],defaults:=.none,kwdefaults:=.none,doc:=.none,pyModule:=(.str (ofString "cpy313.netrc") 194),annotations:=none,code:=(.ref 55),closureTuple:=.none,builtins:=0 }),[].toArray⟩
noncomputable def o57 (P:Params):Obj:=⟨(.type "tuple"),none,(.seq [(.str (ofString "instream") 242),(.str (ofString "lineno") 243),(.str (ofString "pushback") 244),(.str (ofString "whitespace") 245)].toArray 0),[].toArray⟩
noncomputable def o58 (P:Params):Obj:=⟨(.type "dict"),none,(.dict [⟨PyData.keyHash P (ofString "__module__"),(.str (ofString "__module__") 203),(.str (ofString "cpy313.netrc") 194)⟩,⟨PyData.keyHash P (ofString "__firstlineno__"),(.str (ofString "__firstlineno__") 207),(.int (5) 206)⟩,⟨PyData.keyHash P (ofString "__init__"),(.str (ofString "__init__") 215),(.ref 35)⟩,⟨PyData.keyHash P (ofString "_read_char"),(.str (ofString "_read_char") 223),(.ref 42)⟩,⟨PyData.keyHash P (ofString "get_token"),(.str (ofString "get_token") 233),(.ref 49)⟩,⟨PyData.keyHash P (ofString "push_token"),(.str (ofString "push_token") 241),(.ref 56)⟩,⟨PyData.keyHash P (ofString "__static_attributes__"),(.str (ofString "__static_attributes__") 246),(.ref 57)⟩,⟨PyData.keyHash P (ofString "__dict__"),(.str (ofString "__dict__") 248),(.ref 60)⟩,⟨PyData.keyHash P (ofString "__weakref__"),(.str (ofString "__weakref__") 250),(.ref 61)⟩,⟨PyData.keyHash P (ofString "__doc__"),(.str (ofString "__doc__") 251),.none⟩].toArray 4),[].toArray⟩
noncomputable def o59 (P:Params):Obj:=⟨(.type "type"),none,(.cls { name:=(ofString "_netrclex"),bases:=[(.type "object")],mro:=[(.ref 59),(.type "object")],ns:=58,qualname:=(ofString "_netrclex"),hasDict:=true,slotNames:=[],subclasses:=[],abstract:=false,collection:=none,hasDel:=false }),[none,none,(some (.str (ofString "_netrclex") 196)),(some (.str (ofString "_netrclex") 204)),(some (.builtin "object.__new__")),(some (.bool true))].toArray⟩
noncomputable def o60 (P:Params):Obj:=⟨(.type "getset_descriptor"),none,(.fields [(.str (ofString "__dict__") 247),(.ref 59),(.builtin "function.__dict__"),(.builtin "function.__dict__#set")].toArray),[].toArray⟩
noncomputable def o61 (P:Params):Obj:=⟨(.type "getset_descriptor"),none,(.fields [(.str (ofString "__weakref__") 249),(.ref 59),(.builtin "ExceptionGroup.__weakref__"),.none].toArray),[].toArray⟩
noncomputable def o62 (P:Params):Obj:=⟨(.type "super"),none,(.fields [(.ref 59),(.ref 59),(.ref 59)].toArray),[].toArray⟩
noncomputable def o63 (P:Params):Obj:=⟨(.type "builtin_function_or_method"),none,(.fields [(.builtin "object.__init_subclass__"),(.ref 59)].toArray),[].toArray⟩
noncomputable def o64 (P:Params):Obj:=⟨(.type "list"),none,(.seq [(.int (173) 256),(.int (847) 257),(.int (6150) 258),(.int (6155) 259),(.int (6156) 260),(.int (6157) 261),(.int (8203) 262),(.int (8204) 263),(.int (8205) 264),(.int (8288) 265),(.int (65279) 266)].toArray 0),[].toArray⟩
noncomputable def o65 (P:Params):Obj:=⟨(.type "range"),none,(.fields [(.int (65024) 267),(.int (65040) 268),(.int (1) 269)].toArray),[].toArray⟩
noncomputable def o66 (P:Params):Obj:=⟨(.type "list"),none,(.seq [(.int (65024) 272),(.int (65025) 273),(.int (65026) 274),(.int (65027) 275),(.int (65028) 276),(.int (65029) 277),(.int (65030) 278),(.int (65031) 279),(.int (65032) 280),(.int (65033) 281),(.int (65034) 282),(.int (65035) 283),(.int (65036) 284),(.int (65037) 285),(.int (65038) 286),(.int (65039) 287)].toArray 18),[].toArray⟩
noncomputable def o67 (P:Params):Obj:=⟨(.type "range_iterator"),none,(.fields [(.int (65040) 0),(.int (0) 0),(.int (1) 0)].toArray),[].toArray⟩
noncomputable def o68 (P:Params):Obj:=⟨(.type "tuple"),none,(.seq [].toArray 0),[].toArray⟩
noncomputable def o69 (P:Params):Obj:=⟨(.type "StopIteration"),none,(.fields [(.ref 68),.none,.none,.none,(.bool false),.none].toArray),[].toArray⟩
noncomputable def o70 (P:Params):Obj:=⟨(.type "list"),none,(.seq [(.int (173) 256),(.int (847) 257),(.int (6150) 258),(.int (6155) 259),(.int (6156) 260),(.int (6157) 261),(.int (8203) 262),(.int (8204) 263),(.int (8205) 264),(.int (8288) 265),(.int (65279) 266),(.int (65024) 272),(.int (65025) 273),(.int (65026) 274),(.int (65027) 275),(.int (65028) 276),(.int (65029) 277),(.int (65030) 278),(.int (65031) 279),(.int (65032) 280),(.int (65033) 281),(.int (65034) 282),(.int (65035) 283),(.int (65036) 284),(.int (65037) 285),(.int (65038) 286),(.int (65039) 287)].toArray 0),[].toArray⟩
noncomputable def o71 (P:Params):Obj:=⟨(.type "set"),none,(.set [(65024,(.int (65024) 272)),(65025,(.int (65025) 273)),(65026,(.int (65026) 274)),(65027,(.int (65027) 275)),(65028,(.int (65028) 276)),(65029,(.int (65029) 277)),(6150,(.int (6150) 258)),(65030,(.int (65030) 278)),(65031,(.int (65031) 279)),(65032,(.int (65032) 280)),(65033,(.int (65033) 281)),(6155,(.int (6155) 259)),(6156,(.int (6156) 260)),(6157,(.int (6157) 261)),(8203,(.int (8203) 262)),(8204,(.int (8204) 263)),(8205,(.int (8205) 264)),(65034,(.int (65034) 282)),(65035,(.int (65035) 283)),(65036,(.int (65036) 284)),(65037,(.int (65037) 285)),(65038,(.int (65038) 286)),(65039,(.int (65039) 287)),(173,(.int (173) 256)),(847,(.int (847) 257)),(8288,(.int (8288) 265)),(65279,(.int (65279) 266))].toArray 29 { mask:=127,place:=#[0,1,2,3,4,5,6,7,8,9,10,11,12,13,14,15,16,17,18,19,20,21,22,45,79,96,127],dummies:=#[],finger:=0,led:= !P.followText "set-order",moves:=2,plain:=true }),[].toArray⟩
noncomputable def o72 (P:Params):Obj:=⟨(.type "list_iterator"),none,(.fields [.none,(.int (27) 0)].toArray),[].toArray⟩
noncomputable def o73 (P:Params):Obj:=⟨(.type "tuple"),none,(.seq [].toArray 0),[].toArray⟩
noncomputable def o74 (P:Params):Obj:=⟨(.type "StopIteration"),none,(.fields [(.ref 73),.none,.none,.none,(.bool false),.none].toArray),[].toArray⟩
noncomputable def o75 (P:Params):Obj:=⟨(.type "tuple"),none,(.seq [].toArray 0),[].toArray⟩
noncomputable def o77 (P:Params):Obj:=⟨(.type "tuple"),none,(.seq [(.str (ofString "code") 319)].toArray 0),[].toArray⟩
noncomputable def o78 (P:Params):Obj:=⟨(.type "tuple"),none,(.seq [].toArray 0),[].toArray⟩
noncomputable def o80 (P:Params):Obj:=⟨(.type "code"),none,(.fields [(.str (ofString "in_table_b1") 316),(.str (ofString "in_table_b1") 317),(.str (ofString "/claim/cut.py") 318),(.int (50) 0),(.int (1) 0),(.int (0) 0),(.int (0) 0),(.int (3) 0),(.ref 75),(.bool true),(.int (181) 0),(.ref 76),.none,(.ref 77),(.ref 78),(.ref 79),(.int (320) 0),(.int (50) 0),(.str (ofString "/claim/cut.py") 321)].toArray),[].toArray⟩
noncomputable def o81 (P:Params):Obj:=⟨(.type "function"),none,(.func { name:=(ofString "in_table_b1"),qualname:=(ofString "in_table_b1"),params:=f5_args,body:=.stmts f5_body,scope:=f5_scope,globals:=3,closure:=[],defaults:=.none,kwdefaults:=.none,doc:=.none,pyModule:=(.str (ofString "cpy313.stringprep") 254),annotations:=none,code:=(.ref 80),closureTuple:=.none,builtins:=0 }),[].toArray⟩
noncomputable def tabS:Stmt:=(Challenge.pw_uc0057_01.main.body[6]?).getD (.Pass ⟨0,0,0,0⟩)
noncomputable def tabDf:Expr:=.Tuple [] 0 ⟨0,0,0,0⟩
noncomputable def asgV (x:Stmt):Expr:=@PySem.Stmt.casesOn (fun e=>Expr) x (fun j i h g f e d c b a=>tabDf) (fun j i h g f e d c b a=>tabDf) (fun k j i h g f e d c b a=>tabDf) (fun b a=>tabDf) (fun b a=>tabDf) (fun c b a=>b) (fun g f e d c b a=>tabDf) (fun d c b a=>tabDf) (fun e d c b a=>tabDf) (fun e d c b a=>tabDf) (fun e d c b a=>tabDf) (fun d c b a=>tabDf) (fun d c b a=>tabDf) (fun c b a=>tabDf) (fun c b a=>tabDf) (fun c b a=>tabDf) (fun c b a=>tabDf) (fun e d c b a=>tabDf) (fun e d c b a=>tabDf) (fun c b a=>tabDf) (fun b a=>tabDf) (fun d c b a=>tabDf) (fun b a=>tabDf) (fun b a=>tabDf) (fun b a=>tabDf) (fun a=>tabDf) (fun a=>tabDf) (fun a=>tabDf)
noncomputable def dicKV (x:Expr):List (Option Expr)×List Expr:=@Expr.casesOn (fun e=>List (Option Expr)×List Expr) x (fun c b a=>([],[])) (fun c b a=>([],[])) (fun d c b a=>([],[])) (fun c b a=>([],[])) (fun d c b a=>([],[])) (fun d c b a=>([],[])) (fun c b a=>(c,b)) (fun c b a=>([],[])) (fun d c b a=>([],[])) (fun d c b a=>([],[])) (fun e d c b a=>([],[])) (fun d c b a=>([],[])) (fun b a=>([],[])) (fun b a=>([],[])) (fun b a=>([],[])) (fun d c b a=>([],[])) (fun d c b a=>([],[])) (fun d c b a=>([],[])) (fun b a=>([],[])) (fun c b a=>([],[])) (fun c b a=>([],[])) (fun c b a=>([],[])) (fun b a=>([],[])) (fun b a=>([],[])) (fun b a=>([],[])) (fun c b a=>([],[])) (fun d c b a=>([],[]))
noncomputable def cstOf (x:Expr):Option Const:=@Expr.casesOn (fun e=>Option Const) x (fun c b a=>none) (fun c b a=>none) (fun d c b a=>none) (fun c b a=>none) (fun d c b a=>none) (fun d c b a=>none) (fun c b a=>none) (fun c b a=>none) (fun d c b a=>none) (fun d c b a=>none) (fun e d c b a=>none) (fun d c b a=>none) (fun b a=>none) (fun b a=>none) (fun b a=>none) (fun d c b a=>none) (fun d c b a=>none) (fun d c b a=>none) (fun b a=>none) (fun c b a=>some c) (fun c b a=>none) (fun c b a=>none) (fun b a=>none) (fun b a=>none) (fun b a=>none) (fun c b a=>none) (fun d c b a=>none)
noncomputable def intC:Const->Option Int
 | .int k=>some k
 |_=>none
noncomputable def strC:Const->Option Str
 | .str k=>some k
 |_=>none
noncomputable def intE (x:Option Expr):Option Int:=(x.bind cstOf).bind intC
noncomputable def strE (x:Expr):Option Str:=(cstOf x).bind strC
noncomputable def tabKeys:List (Option Expr):=(dicKV (asgV tabS)).1
noncomputable def tabVals:List Expr:=(dicKV (asgV tabS)).2
noncomputable def tabTok (i:Nat):Nat:=bif Nat.blt i 647 then 323+3*i else 2263+2*(i-647)
noncomputable def tabFrom:Nat->List (Option Expr)->List Expr->List DictEntry
 |_,[],_=>[]
 |_,_::_,[]=>[]
 |i,k::ks,v::vs=>⟨(intE k).getD 0,.int ((intE k).getD 0) (tabTok i),.str ((strE v).getD Str.empty) (tabTok i+1)⟩::tabFrom (i+1) ks vs
noncomputable def o82 (_:Params):Obj:=⟨.type "dict",none,.dict (tabFrom 0 tabKeys tabVals).toArray 650,[].toArray⟩
noncomputable def o121 (P:Params):Obj:=⟨(.type "tuple"),none,(.seq [].toArray 0),[].toArray⟩
noncomputable def o123 (P:Params):Obj:=⟨(.type "tuple"),none,(.seq [(.str (ofString "code") 2277),(.str (ofString "r") 2278)].toArray 0),[].toArray⟩
noncomputable def o124 (P:Params):Obj:=⟨(.type "tuple"),none,(.seq [].toArray 0),[].toArray⟩
noncomputable def o126 (P:Params):Obj:=⟨(.type "code"),none,(.fields [(.str (ofString "map_table_b3") 2274),(.str (ofString "map_table_b3") 2275),(.str (ofString "/claim/cut.py") 2276),(.int (53) 0),(.int (1) 0),(.int (0) 0),(.int (0) 0),(.int (3) 0),(.ref 121),(.bool true),(.int (181) 0),(.ref 122),.none,(.ref 123),(.ref 124),(.ref 125),(.int (2279) 0),(.int (53) 0),(.str (ofString "/claim/cut.py") 2280)].toArray),[].toArray⟩
noncomputable def o127 (P:Params):Obj:=⟨(.type "function"),none,(.func { name:=(ofString "map_table_b3"),qualname:=(ofString "map_table_b3"),params:=f7_args,body:=.stmts f7_body,scope:=f7_scope,globals:=3,closure:=[],defaults:=.none,kwdefaults:=.none,doc:=.none,pyModule:=(.str (ofString "cpy313.stringprep") 254),annotations:=none,code:=(.ref 126),closureTuple:=.none,builtins:=0 }),[].toArray⟩
noncomputable def o128 (P:Params):Obj:=⟨(.type "tuple"),none,(.seq [].toArray 0),[].toArray⟩
noncomputable def o129 (P:Params):Obj:=⟨(.type "builtin_function_or_method"),none,(.fields [(.builtin "type.__prepare__"),(.type "type")].toArray),[].toArray⟩
noncomputable def o130 (P:Params):Obj:=⟨(.type "dict"),none,(.dict [⟨PyData.keyHash P (ofString "__module__"),(.str (ofString "__module__") 2291),(.str (ofString "cpy313.tabnanny") 2282)⟩,⟨PyData.keyHash P (ofString "__qualname__"),(.str (ofString "__qualname__") 2293),(.str (ofString "Whitespace") 2292)⟩,⟨PyData.keyHash P (ofString "__firstlineno__"),(.str (ofString "__firstlineno__") 2295),(.int (59) 2294)⟩,⟨PyData.keyHash P (ofString "S"),(.str (ofString "S") 2299),(.str (ofString " ") 2297)⟩,⟨PyData.keyHash P (ofString "T"),(.str (ofString "T") 2300),(.str (ofString "\t") 2298)⟩,⟨PyData.keyHash P (ofString "__init__"),(.str (ofString "__init__") 2315),(.ref 144)⟩,⟨PyData.keyHash P (ofString "longest_run_of_spaces"),(.str (ofString "longest_run_of_spaces") 2324),(.ref 151)⟩,⟨PyData.keyHash P (ofString "indent_level"),(.str (ofString "indent_level") 2332),(.ref 158)⟩,⟨PyData.keyHash P (ofString "equal"),(.str (ofString "equal") 2340),(.ref 165)⟩,⟨PyData.keyHash P (ofString "not_equal_witness"),(.str (ofString "not_equal_witness") 2348),(.ref 172)⟩,⟨PyData.keyHash P (ofString "less"),(.str (ofString "less") 2356),(.ref 179)⟩,⟨PyData.keyHash P (ofString "not_less_witness"),(.str (ofString "not_less_witness") 2364),(.ref 186)⟩,⟨PyData.keyHash P (ofString "__static_attributes__"),(.str (ofString "__static_attributes__") 2370),(.ref 187)⟩].toArray 13),[].toArray⟩
noncomputable def o131 (P:Params):Obj:=⟨(.type "tuple"),none,(.seq [].toArray 0),[].toArray⟩
noncomputable def o133 (P:Params):Obj:=⟨(.type "code"),none,(.fields [(.str (ofString "Whitespace") 2286),(.str (ofString "Whitespace") 2287),(.str (ofString "/claim/cut.py") 2288),(.int (59) 0),(.int (0) 0),(.int (0) 0),(.int (0) 0),(.int (0) 0),(.ref 131),(.bool false),(.int (181) 0),(.ref 132),.none,.none,.none,.none,(.int (2289) 0),(.int (59) 0),(.str (ofString "/claim/cut.py") 2290)].toArray),[].toArray⟩
noncomputable def o134 (P:Params):Obj:=⟨(.type "frame"),none,.plain,[(some (.ref 133)),(some (.ref 3)),(some (.ref 130)),none,(some (.str (ofString "cpy313.tabnanny") 2282)),none,(some (.ref 0))].toArray⟩
noncomputable def o135 (P:Params):Obj:=⟨(.type "str_ascii_iterator"),none,(.fields [.none,(.int (2) 0)].toArray),[].toArray⟩
noncomputable def o136 (P:Params):Obj:=⟨(.type "tuple"),none,(.seq [].toArray 0),[].toArray⟩
noncomputable def o137 (P:Params):Obj:=⟨(.type "StopIteration"),none,(.fields [(.ref 136),.none,.none,.none,(.bool false),.none].toArray),[].toArray⟩
noncomputable def o138 (P:Params):Obj:=⟨(.type "tuple"),none,(.seq [].toArray 0),[].toArray⟩
noncomputable def o140 (P:Params):Obj:=⟨(.type "tuple"),none,(.seq [(.str (ofString "self") 2304),(.str (ofString "ws") 2305),(.str (ofString "S") 2306),(.str (ofString "T") 2307),(.str (ofString "count") 2308),(.str (ofString "b") 2309),(.str (ofString "n") 2310),(.str (ofString "nt") 2311),(.str (ofString "ch") 2312)].toArray 0),[].toArray⟩
noncomputable def o141 (P:Params):Obj:=⟨(.type "tuple"),none,(.seq [].toArray 0),[].toArray⟩
noncomputable def o143 (P:Params):Obj:=⟨(.type "code"),none,(.fields [(.str (ofString "__init__") 2301),(.str (ofString "Whitespace.__init__") 2302),(.str (ofString "/claim/cut.py") 2303),(.int (62) 0),(.int (2) 0),(.int (0) 0),(.int (0) 0),(.int (3) 0),(.ref 138),(.bool true),(.int (181) 0),(.ref 139),.none,(.ref 140),(.ref 141),(.ref 142),(.int (2313) 0),(.int (62) 0),(.str (ofString "/claim/cut.py") 2314)].toArray),[].toArray⟩
noncomputable def o144 (P:Params):Obj:=⟨(.type "function"),none,(.func { name:=(ofString "__init__"),qualname:=(ofString "Whitespace.__init__"),params:=f9m1_args,body:=.stmts f9m1_body,scope:=f9m1_scope,globals:=3,closure:=[],defaults:=.none,kwdefaults:=.none,doc:=.none,pyModule:=(.str (ofString "cpy313.tabnanny") 2282),annotations:=none,code:=(.ref 143),closureTuple:=.none,builtins:=0 }),[].toArray⟩
noncomputable def o145 (P:Params):Obj:=⟨(.type "tuple"),none,(.seq [].toArray 0),[].toArray⟩
noncomputable def o147 (P:Params):Obj:=⟨(.type "tuple"),none,(.seq [(.str (ofString "self") 2319),(.str (ofString "count") 2320),(.str (ofString "trailing") 2321)].toArray 0),[].toArray⟩
noncomputable def o148 (P:Params):Obj:=⟨(.type "tuple"),none,(.seq [].toArray 0),[].toArray⟩
noncomputable def o150 (P:Params):Obj:=⟨(.type "code"),none,(.fields [(.str (ofString "longest_run_of_spaces") 2316),(.str (ofString "Whitespace.longest_run_of_spaces") 2317),(.str (ofString "/claim/cut.py") 2318),(.int (85) 0),(.int (1) 0),(.int (0) 0),(.int (0) 0),(.int (3) 0),(.ref 145),(.bool true),(.int (181) 0),(.ref 146),.none,(.ref 147),(.ref 148),(.ref 149),(.int (2322) 0),(.int (85) 0),(.str (ofString "/claim/cut.py") 2323)].toArray),[].toArray⟩
noncomputable def o151 (P:Params):Obj:=⟨(.type "function"),none,(.func { name:=(ofString "longest_run_of_spaces"),qualname:=(ofString "Whitespace.longest_run_of_spaces"),params:=f9m2_args,body:=.stmts f9m2_body,scope:=f9m2_scope,globals:=3,closure:=[],defaults:=.none,kwdefaults:=.none,doc:=.none,pyModule:=(.str (ofString "cpy313.tabnanny") 2282),annotations:=none,code:=(.ref 150),closureTuple:=.none,builtins:=0 }),[].toArray⟩
noncomputable def o152 (P:Params):Obj:=⟨(.type "tuple"),none,(.seq [].toArray 0),[].toArray⟩
noncomputable def o154 (P:Params):Obj:=⟨(.type "tuple"),none,(.seq [(.str (ofString "self") 2328),(.str (ofString "tabsize") 2329)].toArray 0),[].toArray⟩
noncomputable def o155 (P:Params):Obj:=⟨(.type "tuple"),none,(.seq [].toArray 0),[].toArray⟩
noncomputable def o157 (P:Params):Obj:=⟨(.type "code"),none,(.fields [(.str (ofString "indent_level") 2325),(.str (ofString "Whitespace.indent_level") 2326),(.str (ofString "/claim/cut.py") 2327),(.int (89) 0),(.int (2) 0),(.int (0) 0),(.int (0) 0),(.int (3) 0),(.ref 152),(.bool true),(.int (181) 0),(.ref 153),.none,(.ref 154),(.ref 155),(.ref 156),(.int (2330) 0),(.int (89) 0),(.str (ofString "/claim/cut.py") 2331)].toArray),[].toArray⟩
noncomputable def o158 (P:Params):Obj:=⟨(.type "function"),none,(.func { name:=(ofString "indent_level"),qualname:=(ofString "Whitespace.indent_level"),params:=f9m3_args,body:=.stmts f9m3_body,scope:=f9m3_scope,globals:=3,closure:=[],defaults:=.none,kwdefaults:=.none,doc:=.none,pyModule:=(.str (ofString "cpy313.tabnanny") 2282),annotations:=none,code:=(.ref 157),closureTuple:=.none,builtins:=0 }),[].toArray⟩
noncomputable def o159 (P:Params):Obj:=⟨(.type "tuple"),none,(.seq [].toArray 0),[].toArray⟩
noncomputable def o161 (P:Params):Obj:=⟨(.type "tuple"),none,(.seq [(.str (ofString "self") 2336),(.str (ofString "other") 2337)].toArray 0),[].toArray⟩
noncomputable def o162 (P:Params):Obj:=⟨(.type "tuple"),none,(.seq [].toArray 0),[].toArray⟩
noncomputable def o164 (P:Params):Obj:=⟨(.type "code"),none,(.fields [(.str (ofString "equal") 2333),(.str (ofString "Whitespace.equal") 2334),(.str (ofString "/claim/cut.py") 2335),(.int (92) 0),(.int (2) 0),(.int (0) 0),(.int (0) 0),(.int (3) 0),(.ref 159),(.bool true),(.int (181) 0),(.ref 160),.none,(.ref 161),(.ref 162),(.ref 163),(.int (2338) 0),(.int (92) 0),(.str (ofString "/claim/cut.py") 2339)].toArray),[].toArray⟩
noncomputable def o165 (P:Params):Obj:=⟨(.type "function"),none,(.func { name:=(ofString "equal"),qualname:=(ofString "Whitespace.equal"),params:=f9m4_args,body:=.stmts f9m4_body,scope:=f9m4_scope,globals:=3,closure:=[],defaults:=.none,kwdefaults:=.none,doc:=.none,pyModule:=(.str (ofString "cpy313.tabnanny") 2282),annotations:=none,code:=(.ref 164),closureTuple:=.none,builtins:=0 }),[].toArray⟩
noncomputable def o166 (P:Params):Obj:=⟨(.type "tuple"),none,(.seq [].toArray 0),[].toArray⟩
noncomputable def o168 (P:Params):Obj:=⟨(.type "tuple"),none,(.seq [(.str (ofString "self") 2344),(.str (ofString "other") 2345)].toArray 0),[].toArray⟩
noncomputable def o169 (P:Params):Obj:=⟨(.type "tuple"),none,(.seq [].toArray 0),[].toArray⟩
noncomputable def o171 (P:Params):Obj:=⟨(.type "code"),none,(.fields [(.str (ofString "not_equal_witness") 2341),(.str (ofString "Whitespace.not_equal_witness") 2342),(.str (ofString "/claim/cut.py") 2343),(.int (95) 0),(.int (2) 0),(.int (0) 0),(.int (0) 0),(.int (3) 0),(.ref 166),(.bool true),(.int (181) 0),(.ref 167),.none,(.ref 168),(.ref 169),(.ref 170),(.int (2346) 0),(.int (95) 0),(.str (ofString "/claim/cut.py") 2347)].toArray),[].toArray⟩
noncomputable def o172 (P:Params):Obj:=⟨(.type "function"),none,(.func { name:=(ofString "not_equal_witness"),qualname:=(ofString "Whitespace.not_equal_witness"),params:=f9m5_args,body:=.stmts f9m5_body,scope:=f9m5_scope,globals:=3,closure:=[],defaults:=.none,kwdefaults:=.none,doc:=.none,pyModule:=(.str (ofString "cpy313.tabnanny") 2282),annotations:=none,code:=(.ref 171),closureTuple:=.none,builtins:=0 }),[].toArray⟩
noncomputable def o173 (P:Params):Obj:=⟨(.type "tuple"),none,(.seq [].toArray 0),[].toArray⟩
noncomputable def o175 (P:Params):Obj:=⟨(.type "tuple"),none,(.seq [(.str (ofString "self") 2352),(.str (ofString "other") 2353)].toArray 0),[].toArray⟩
noncomputable def o176 (P:Params):Obj:=⟨(.type "tuple"),none,(.seq [].toArray 0),[].toArray⟩
noncomputable def o178 (P:Params):Obj:=⟨(.type "code"),none,(.fields [(.str (ofString "less") 2349),(.str (ofString "Whitespace.less") 2350),(.str (ofString "/claim/cut.py") 2351),(.int (98) 0),(.int (2) 0),(.int (0) 0),(.int (0) 0),(.int (3) 0),(.ref 173),(.bool true),(.int (181) 0),(.ref 174),.none,(.ref 175),(.ref 176),(.ref 177),(.int (2354) 0),(.int (98) 0),(.str (ofString "/claim/cut.py") 2355)].toArray),[].toArray⟩
noncomputable def o179 (P:Params):Obj:=⟨(.type "function"),none,(.func { name:=(ofString "less"),qualname:=(ofString "Whitespace.less"),params:=f9m6_args,body:=.stmts f9m6_body,scope:=f9m6_scope,globals:=3,closure:=[],defaults:=.none,kwdefaults:=.none,doc:=.none,pyModule:=(.str (ofString "cpy313.tabnanny") 2282),annotations:=none,code:=(.ref 178),closureTuple:=.none,builtins:=0 }),[].toArray⟩
noncomputable def o180 (P:Params):Obj:=⟨(.type "tuple"),none,(.seq [].toArray 0),[].toArray⟩
noncomputable def o182 (P:Params):Obj:=⟨(.type "tuple"),none,(.seq [(.str (ofString "self") 2360),(.str (ofString "other") 2361)].toArray 0),[].toArray⟩
noncomputable def o183 (P:Params):Obj:=⟨(.type "tuple"),none,(.seq [].toArray 0),[].toArray⟩
noncomputable def o185 (P:Params):Obj:=⟨(.type "code"),none,(.fields [(.str (ofString "not_less_witness") 2357),(.str (ofString "Whitespace.not_less_witness") 2358),(.str (ofString "/claim/cut.py") 2359),(.int (101) 0),(.int (2) 0),(.int (0) 0),(.int (0) 0),(.int (3) 0),(.ref 180),(.bool true),(.int (181) 0),(.ref 181),.none,(.ref 182),(.ref 183),(.ref 184),(.int (2362) 0),(.int (101) 0),(.str (ofString "/claim/cut.py") 2363)].toArray),[].toArray⟩
noncomputable def o186 (P:Params):Obj:=⟨(.type "function"),none,(.func { name:=(ofString "not_less_witness"),qualname:=(ofString "Whitespace.not_less_witness"),params:=f9m7_args,body:=.stmts f9m7_body,scope:=f9m7_scope,globals:=3,closure:=[],defaults:=.none,kwdefaults:=.none,doc:=.none,pyModule:=(.str (ofString "cpy313.tabnanny") 2282),annotations:=none,code:=(.ref 185),closureTuple:=.none,builtins:=0 }),[].toArray⟩
noncomputable def o187 (P:Params):Obj:=⟨(.type "tuple"),none,(.seq [(.str (ofString "is_simple") 2365),(.str (ofString "n") 2366),(.str (ofString "norm") 2367),(.str (ofString "nt") 2368),(.str (ofString "raw") 2369)].toArray 0),[].toArray⟩
noncomputable def o188 (P:Params):Obj:=⟨(.type "dict"),none,(.dict [⟨PyData.keyHash P (ofString "__module__"),(.str (ofString "__module__") 2291),(.str (ofString "cpy313.tabnanny") 2282)⟩,⟨PyData.keyHash P (ofString "__firstlineno__"),(.str (ofString "__firstlineno__") 2295),(.int (59) 2294)⟩,⟨PyData.keyHash P (ofString "S"),(.str (ofString "S") 2299),(.str (ofString " ") 2297)⟩,⟨PyData.keyHash P (ofString "T"),(.str (ofString "T") 2300),(.str (ofString "\t") 2298)⟩,⟨PyData.keyHash P (ofString "__init__"),(.str (ofString "__init__") 2315),(.ref 144)⟩,⟨PyData.keyHash P (ofString "longest_run_of_spaces"),(.str (ofString "longest_run_of_spaces") 2324),(.ref 151)⟩,⟨PyData.keyHash P (ofString "indent_level"),(.str (ofString "indent_level") 2332),(.ref 158)⟩,⟨PyData.keyHash P (ofString "equal"),(.str (ofString "equal") 2340),(.ref 165)⟩,⟨PyData.keyHash P (ofString "not_equal_witness"),(.str (ofString "not_equal_witness") 2348),(.ref 172)⟩,⟨PyData.keyHash P (ofString "less"),(.str (ofString "less") 2356),(.ref 179)⟩,⟨PyData.keyHash P (ofString "not_less_witness"),(.str (ofString "not_less_witness") 2364),(.ref 186)⟩,⟨PyData.keyHash P (ofString "__static_attributes__"),(.str (ofString "__static_attributes__") 2370),(.ref 187)⟩,⟨PyData.keyHash P (ofString "__dict__"),(.str (ofString "__dict__") 2372),(.ref 190)⟩,⟨PyData.keyHash P (ofString "__weakref__"),(.str (ofString "__weakref__") 2374),(.ref 191)⟩,⟨PyData.keyHash P (ofString "__doc__"),(.str (ofString "__doc__") 2375),.none⟩].toArray 4),[].toArray⟩
noncomputable def o189 (P:Params):Obj:=⟨(.type "type"),none,(.cls { name:=(ofString "Whitespace"),bases:=[(.type "object")],mro:=[(.ref 189),(.type "object")],ns:=188,qualname:=(ofString "Whitespace"),hasDict:=true,slotNames:=[],subclasses:=[],abstract:=false,collection:=none,hasDel:=false }),[none,none,(some (.str (ofString "Whitespace") 2284)),(some (.str (ofString "Whitespace") 2292)),(some (.builtin "object.__new__")),(some (.bool true))].toArray⟩
noncomputable def o190 (P:Params):Obj:=⟨(.type "getset_descriptor"),none,(.fields [(.str (ofString "__dict__") 2371),(.ref 189),(.builtin "function.__dict__"),(.builtin "function.__dict__#set")].toArray),[].toArray⟩
noncomputable def o191 (P:Params):Obj:=⟨(.type "getset_descriptor"),none,(.fields [(.str (ofString "__weakref__") 2373),(.ref 189),(.builtin "ExceptionGroup.__weakref__"),.none].toArray),[].toArray⟩
noncomputable def o192 (P:Params):Obj:=⟨(.type "super"),none,(.fields [(.ref 189),(.ref 189),(.ref 189)].toArray),[].toArray⟩
noncomputable def o193 (P:Params):Obj:=⟨(.type "builtin_function_or_method"),none,(.fields [(.builtin "object.__init_subclass__"),(.ref 189)].toArray),[].toArray⟩
noncomputable def o194 (P:Params):Obj:=⟨(.type "tuple"),none,(.seq [].toArray 0),[].toArray⟩
noncomputable def o196 (P:Params):Obj:=⟨(.type "tuple"),none,(.seq [(.str (ofString "ch_a") 2389),(.str (ofString "ch_b") 2390)].toArray 0),[].toArray⟩
noncomputable def o197 (P:Params):Obj:=⟨(.type "tuple"),none,(.seq [].toArray 0),[].toArray⟩
noncomputable def o199 (P:Params):Obj:=⟨(.type "code"),none,(.fields [(.str (ofString "_substitution_cost") 2386),(.str (ofString "_substitution_cost") 2387),(.str (ofString "/claim/cut.py") 2388),(.int (107) 0),(.int (2) 0),(.int (0) 0),(.int (0) 0),(.int (3) 0),(.ref 194),(.bool true),(.int (181) 0),(.ref 195),.none,(.ref 196),(.ref 197),(.ref 198),(.int (2391) 0),(.int (107) 0),(.str (ofString "/claim/cut.py") 2392)].toArray),[].toArray⟩
noncomputable def o200 (P:Params):Obj:=⟨(.type "function"),none,(.func { name:=(ofString "_substitution_cost"),qualname:=(ofString "_substitution_cost"),params:=f14_args,body:=.stmts f14_body,scope:=f14_scope,globals:=3,closure:=[],defaults:=.none,kwdefaults:=.none,doc:=.none,pyModule:=(.str (ofString "cpy313.traceback") 2378),annotations:=none,code:=(.ref 199),closureTuple:=.none,builtins:=0 }),[].toArray⟩
noncomputable def o201 (P:Params):Obj:=⟨(.type "tuple"),none,(.seq [].toArray 0),[].toArray⟩
noncomputable def o203 (P:Params):Obj:=⟨(.type "tuple"),none,(.seq [(.str (ofString "a") 2397),(.str (ofString "b") 2398),(.str (ofString "max_cost") 2399),(.str (ofString "pre") 2400),(.str (ofString "post") 2401),(.str (ofString "row") 2402),(.str (ofString "result") 2403),(.str (ofString "bindex") 2404),(.str (ofString "bchar") 2405),(.str (ofString "distance") 2406),(.str (ofString "minimum") 2407),(.str (ofString "index") 2408),(.str (ofString "substitute") 2409),(.str (ofString "insert_delete") 2410)].toArray 0),[].toArray⟩
noncomputable def o204 (P:Params):Obj:=⟨(.type "tuple"),none,(.seq [].toArray 0),[].toArray⟩
noncomputable def o206 (P:Params):Obj:=⟨(.type "code"),none,(.fields [(.str (ofString "_levenshtein_distance") 2394),(.str (ofString "_levenshtein_distance") 2395),(.str (ofString "/claim/cut.py") 2396),(.int (113) 0),(.int (3) 0),(.int (0) 0),(.int (0) 0),(.int (3) 0),(.ref 201),(.bool true),(.int (181) 0),(.ref 202),.none,(.ref 203),(.ref 204),(.ref 205),(.int (2411) 0),(.int (113) 0),(.str (ofString "/claim/cut.py") 2412)].toArray),[].toArray⟩
noncomputable def o207 (P:Params):Obj:=⟨(.type "function"),none,(.func { name:=(ofString "_levenshtein_distance"),qualname:=(ofString "_levenshtein_distance"),params:=f15_args,body:=.stmts f15_body,scope:=f15_scope,globals:=3,closure:=[],defaults:=.none,kwdefaults:=.none,doc:=.none,pyModule:=(.str (ofString "cpy313.traceback") 2378),annotations:=none,code:=(.ref 206),closureTuple:=.none,builtins:=0 }),[].toArray⟩
noncomputable def o208 (P:Params):Obj:=⟨(.type "tuple"),none,(.seq [].toArray 0),[].toArray⟩
noncomputable def o210 (P:Params):Obj:=⟨(.type "tuple"),none,(.seq [(.str (ofString "text") 2419),(.str (ofString "stream") 2420)].toArray 0),[].toArray⟩
noncomputable def o211 (P:Params):Obj:=⟨(.type "tuple"),none,(.seq [(.str (ofString "signs") 2421)].toArray 0),[].toArray⟩
noncomputable def o213 (P:Params):Obj:=⟨(.type "code"),none,(.fields [(.str (ofString "_law_lexer") 2416),(.str (ofString "_law_lexer") 2417),(.str (ofString "/claim/cut.py") 2418),(.int (152) 0),(.int (1) 0),(.int (0) 0),(.int (0) 0),(.int (3) 0),(.ref 208),(.bool true),(.int (181) 0),(.ref 209),.none,(.ref 210),(.ref 211),(.ref 212),(.int (2422) 0),(.int (152) 0),(.str (ofString "/claim/cut.py") 2423)].toArray),[].toArray⟩
noncomputable def o214 (P:Params):Obj:=⟨(.type "function"),none,(.func { name:=(ofString "_law_lexer"),qualname:=(ofString "_law_lexer"),params:=f17_args,body:=.stmts f17_body,scope:=f17_scope,globals:=3,closure:=[],defaults:=.none,kwdefaults:=.none,doc:=.none,pyModule:=(.str (ofString "law_uc0057_01") 2414),annotations:=none,code:=(.ref 213),closureTuple:=.none,builtins:=0 }),[].toArray⟩
noncomputable def o215 (P:Params):Obj:=⟨(.type "tuple"),none,(.seq [].toArray 0),[].toArray⟩
noncomputable def o218 (P:Params):Obj:=⟨(.type "code"),none,(.fields [(.str (ofString "_law_spelled") 2425),(.str (ofString "_law_spelled") 2426),(.str (ofString "/claim/cut.py") 2427),(.int (157) 0),(.int (2) 0),(.int (0) 0),(.int (0) 0),(.int (3) 0),(.ref 215),(.bool true),(.int (181) 0),(.ref 216),.none,.none,.none,(.ref 217),(.int (2428) 0),(.int (157) 0),(.str (ofString "/claim/cut.py") 2429)].toArray),[].toArray⟩
noncomputable def o219 (P:Params):Obj:=⟨(.type "function"),none,(.func { name:=(ofString "_law_spelled"),qualname:=(ofString "_law_spelled"),params:=f18_args,body:=.stmts f18_body,scope:=f18_scope,globals:=3,closure:=[],defaults:=.none,kwdefaults:=.none,doc:=.none,pyModule:=(.str (ofString "law_uc0057_01") 2414),annotations:=none,code:=(.ref 218),closureTuple:=.none,builtins:=0 }),[].toArray⟩
noncomputable def o220 (P:Params):Obj:=⟨(.type "tuple"),none,(.seq [].toArray 0),[].toArray⟩
noncomputable def o223 (P:Params):Obj:=⟨(.type "code"),none,(.fields [(.str (ofString "_law_kept") 2431),(.str (ofString "_law_kept") 2432),(.str (ofString "/claim/cut.py") 2433),(.int (176) 0),(.int (1) 0),(.int (0) 0),(.int (0) 0),(.int (3) 0),(.ref 220),(.bool true),(.int (181) 0),(.ref 221),.none,.none,.none,(.ref 222),(.int (2434) 0),(.int (176) 0),(.str (ofString "/claim/cut.py") 2435)].toArray),[].toArray⟩
noncomputable def o224 (P:Params):Obj:=⟨(.type "function"),none,(.func { name:=(ofString "_law_kept"),qualname:=(ofString "_law_kept"),params:=f19_args,body:=.stmts f19_body,scope:=f19_scope,globals:=3,closure:=[],defaults:=.none,kwdefaults:=.none,doc:=.none,pyModule:=(.str (ofString "law_uc0057_01") 2414),annotations:=none,code:=(.ref 223),closureTuple:=.none,builtins:=0 }),[].toArray⟩
noncomputable def o225 (P:Params):Obj:=⟨(.type "tuple"),none,(.seq [].toArray 0),[].toArray⟩
noncomputable def o228 (P:Params):Obj:=⟨(.type "code"),none,(.fields [(.str (ofString "_law_small") 2437),(.str (ofString "_law_small") 2438),(.str (ofString "/claim/cut.py") 2439),(.int (178) 0),(.int (1) 0),(.int (0) 0),(.int (0) 0),(.int (3) 0),(.ref 225),(.bool true),(.int (181) 0),(.ref 226),.none,.none,.none,(.ref 227),(.int (2440) 0),(.int (178) 0),(.str (ofString "/claim/cut.py") 2441)].toArray),[].toArray⟩
noncomputable def o229 (P:Params):Obj:=⟨(.type "function"),none,(.func { name:=(ofString "_law_small"),qualname:=(ofString "_law_small"),params:=f20_args,body:=.stmts f20_body,scope:=f20_scope,globals:=3,closure:=[],defaults:=.none,kwdefaults:=.none,doc:=.none,pyModule:=(.str (ofString "law_uc0057_01") 2414),annotations:=none,code:=(.ref 228),closureTuple:=.none,builtins:=0 }),[].toArray⟩
noncomputable def o230 (P:Params):Obj:=⟨(.type "tuple"),none,(.seq [].toArray 0),[].toArray⟩
noncomputable def o233 (P:Params):Obj:=⟨(.type "code"),none,(.fields [(.str (ofString "_law_lead") 2443),(.str (ofString "_law_lead") 2444),(.str (ofString "/claim/cut.py") 2445),(.int (180) 0),(.int (1) 0),(.int (0) 0),(.int (0) 0),(.int (3) 0),(.ref 230),(.bool true),(.int (181) 0),(.ref 231),.none,.none,.none,(.ref 232),(.int (2446) 0),(.int (180) 0),(.str (ofString "/claim/cut.py") 2447)].toArray),[].toArray⟩
noncomputable def o234 (P:Params):Obj:=⟨(.type "function"),none,(.func { name:=(ofString "_law_lead"),qualname:=(ofString "_law_lead"),params:=f21_args,body:=.stmts f21_body,scope:=f21_scope,globals:=3,closure:=[],defaults:=.none,kwdefaults:=.none,doc:=.none,pyModule:=(.str (ofString "law_uc0057_01") 2414),annotations:=none,code:=(.ref 233),closureTuple:=.none,builtins:=0 }),[].toArray⟩
noncomputable def o235 (P:Params):Obj:=⟨(.type "tuple"),none,(.seq [].toArray 0),[].toArray⟩
noncomputable def o238 (P:Params):Obj:=⟨(.type "code"),none,(.fields [(.str (ofString "_law_due") 2449),(.str (ofString "_law_due") 2450),(.str (ofString "/claim/cut.py") 2451),(.int (182) 0),(.int (2) 0),(.int (0) 0),(.int (0) 0),(.int (3) 0),(.ref 235),(.bool true),(.int (181) 0),(.ref 236),.none,.none,.none,(.ref 237),(.int (2452) 0),(.int (182) 0),(.str (ofString "/claim/cut.py") 2453)].toArray),[].toArray⟩
noncomputable def o239 (P:Params):Obj:=⟨(.type "function"),none,(.func { name:=(ofString "_law_due"),qualname:=(ofString "_law_due"),params:=f22_args,body:=.stmts f22_body,scope:=f22_scope,globals:=3,closure:=[],defaults:=.none,kwdefaults:=.none,doc:=.none,pyModule:=(.str (ofString "law_uc0057_01") 2414),annotations:=none,code:=(.ref 238),closureTuple:=.none,builtins:=0 }),[].toArray⟩
noncomputable def o240 (P:Params):Obj:=⟨(.type "tuple"),none,(.seq [].toArray 0),[].toArray⟩
noncomputable def o243 (P:Params):Obj:=⟨(.type "code"),none,(.fields [(.str (ofString "law") 2455),(.str (ofString "law") 2456),(.str (ofString "/claim/cut.py") 2457),(.int (189) 0),(.int (1) 0),(.int (0) 0),(.int (0) 0),(.int (3) 0),(.ref 240),(.bool true),(.int (181) 0),(.ref 241),.none,.none,.none,(.ref 242),(.int (2458) 0),(.int (189) 0),(.str (ofString "/claim/cut.py") 2459)].toArray),[].toArray⟩
noncomputable def o244 (P:Params):Obj:=⟨(.type "function"),none,(.func { name:=(ofString "law"),qualname:=(ofString "law"),params:=f23_args,body:=.stmts f23_body,scope:=f23_scope,globals:=3,closure:=[],defaults:=.none,kwdefaults:=.none,doc:=.none,pyModule:=(.str (ofString "law_uc0057_01") 2414),annotations:=none,code:=(.ref 243),closureTuple:=.none,builtins:=0 }),[].toArray⟩
noncomputable def o2 (_:Params):Obj:=⟨.none,none,(.dict [].toArray 0),[].toArray⟩
noncomputable def K:Params->Frag:=fun P=>(nat_lit 2,o2 P)::
 (nat_lit 3,o3 P)::
 (nat_lit 4,o4 P)::
 (nat_lit 5,o5 P)::
 (nat_lit 6,o6 P)::
 (nat_lit 7,o7 P)::
 (nat_lit 9,o9 P)::
 (nat_lit 10,o10 P)::
 (nat_lit 11,o11 P)::
 (nat_lit 13,o13 P)::
 (nat_lit 14,o14 P)::
 (nat_lit 15,o15 P)::
 (nat_lit 17,o17 P)::
 (nat_lit 18,o18 P)::
 (nat_lit 20,o20 P)::
 (nat_lit 21,o21 P)::
 (nat_lit 22,o22 P)::
 (nat_lit 23,o23 P)::
 (nat_lit 24,o24 P)::
 (nat_lit 25,o25 P)::
 (nat_lit 27,o27 P)::
 (nat_lit 28,o28 P)::
 (nat_lit 29,o29 P)::
 (nat_lit 31,o31 P)::
 (nat_lit 32,o32 P)::
 (nat_lit 34,o34 P)::
 (nat_lit 35,o35 P)::
 (nat_lit 36,o36 P)::
 (nat_lit 38,o38 P)::
 (nat_lit 39,o39 P)::
 (nat_lit 41,o41 P)::
 (nat_lit 42,o42 P)::
 (nat_lit 43,o43 P)::
 (nat_lit 45,o45 P)::
 (nat_lit 46,o46 P)::
 (nat_lit 48,o48 P)::
 (nat_lit 49,o49 P)::
 (nat_lit 50,o50 P)::
 (nat_lit 52,o52 P)::
 (nat_lit 53,o53 P)::
 (nat_lit 55,o55 P)::
 (nat_lit 56,o56 P)::
 (nat_lit 57,o57 P)::
 (nat_lit 58,o58 P)::
 (nat_lit 59,o59 P)::
 (nat_lit 60,o60 P)::
 (nat_lit 61,o61 P)::
 (nat_lit 62,o62 P)::
 (nat_lit 63,o63 P)::
 (nat_lit 64,o64 P)::
 (nat_lit 65,o65 P)::
 (nat_lit 66,o66 P)::
 (nat_lit 67,o67 P)::
 (nat_lit 68,o68 P)::
 (nat_lit 69,o69 P)::
 (nat_lit 70,o70 P)::
 (nat_lit 71,o71 P)::
 (nat_lit 72,o72 P)::
 (nat_lit 73,o73 P)::
 (nat_lit 74,o74 P)::
 (nat_lit 75,o75 P)::
 (nat_lit 77,o77 P)::
 (nat_lit 78,o78 P)::
 (nat_lit 80,o80 P)::
 (nat_lit 81,o81 P)::
 (nat_lit 82,o82 P)::
 (nat_lit 121,o121 P)::
 (nat_lit 123,o123 P)::
 (nat_lit 124,o124 P)::
 (nat_lit 126,o126 P)::
 (nat_lit 127,o127 P)::
 (nat_lit 128,o128 P)::
 (nat_lit 129,o129 P)::
 (nat_lit 130,o130 P)::
 (nat_lit 131,o131 P)::
 (nat_lit 133,o133 P)::
 (nat_lit 134,o134 P)::
 (nat_lit 135,o135 P)::
 (nat_lit 136,o136 P)::
 (nat_lit 137,o137 P)::
 (nat_lit 138,o138 P)::
 (nat_lit 140,o140 P)::
 (nat_lit 141,o141 P)::
 (nat_lit 143,o143 P)::
 (nat_lit 144,o144 P)::
 (nat_lit 145,o145 P)::
 (nat_lit 147,o147 P)::
 (nat_lit 148,o148 P)::
 (nat_lit 150,o150 P)::
 (nat_lit 151,o151 P)::
 (nat_lit 152,o152 P)::
 (nat_lit 154,o154 P)::
 (nat_lit 155,o155 P)::
 (nat_lit 157,o157 P)::
 (nat_lit 158,o158 P)::
 (nat_lit 159,o159 P)::
 (nat_lit 161,o161 P)::
 (nat_lit 162,o162 P)::
 (nat_lit 164,o164 P)::
 (nat_lit 165,o165 P)::
 (nat_lit 166,o166 P)::
 (nat_lit 168,o168 P)::
 (nat_lit 169,o169 P)::
 (nat_lit 171,o171 P)::
 (nat_lit 172,o172 P)::
 (nat_lit 173,o173 P)::
 (nat_lit 175,o175 P)::
 (nat_lit 176,o176 P)::
 (nat_lit 178,o178 P)::
 (nat_lit 179,o179 P)::
 (nat_lit 180,o180 P)::
 (nat_lit 182,o182 P)::
 (nat_lit 183,o183 P)::
 (nat_lit 185,o185 P)::
 (nat_lit 186,o186 P)::
 (nat_lit 187,o187 P)::
 (nat_lit 188,o188 P)::
 (nat_lit 189,o189 P)::
 (nat_lit 190,o190 P)::
 (nat_lit 191,o191 P)::
 (nat_lit 192,o192 P)::
 (nat_lit 193,o193 P)::
 (nat_lit 194,o194 P)::
 (nat_lit 196,o196 P)::
 (nat_lit 197,o197 P)::
 (nat_lit 199,o199 P)::
 (nat_lit 200,o200 P)::
 (nat_lit 201,o201 P)::
 (nat_lit 203,o203 P)::
 (nat_lit 204,o204 P)::
 (nat_lit 206,o206 P)::
 (nat_lit 207,o207 P)::
 (nat_lit 208,o208 P)::
 (nat_lit 210,o210 P)::
 (nat_lit 211,o211 P)::
 (nat_lit 213,o213 P)::
 (nat_lit 214,o214 P)::
 (nat_lit 215,o215 P)::
 (nat_lit 218,o218 P)::
 (nat_lit 219,o219 P)::
 (nat_lit 220,o220 P)::
 (nat_lit 223,o223 P)::
 (nat_lit 224,o224 P)::
 (nat_lit 225,o225 P)::
 (nat_lit 228,o228 P)::
 (nat_lit 229,o229 P)::
 (nat_lit 230,o230 P)::
 (nat_lit 233,o233 P)::
 (nat_lit 234,o234 P)::
 (nat_lit 235,o235 P)::
 (nat_lit 238,o238 P)::
 (nat_lit 239,o239 P)::
 (nat_lit 240,o240 P)::
 (nat_lit 243,o243 P)::
 (nat_lit 244,o244 P)::[]
noncomputable def Kas:List Addr:=[2,3,4,5,6,7,9,10,11,13,14,15,17,18,20,21,22,23,24,25,27,28,29,31,32,34,35,36,38,39,41,42,43,45,46,48,49,50,52,53,55,56,57,58,59,60,61,62,63,64,65,66,67,68,69,70,71,72,73,74,75,77,78,80,81,82,121,123,124,126,127,128,129,130,131,133,134,135,136,137,138,140,141,143,144,145,147,148,150,151,152,154,155,157,158,159,161,162,164,165,166,168,169,171,172,173,175,176,178,179,180,182,183,185,186,187,188,189,190,191,192,193,194,196,197,199,200,201,203,204,206,207,208,210,211,213,214,215,218,219,220,223,224,225,228,229,230,233,234,235,238,239,240,243,244]
end Uc
section
namespace Uc
theorem idP {P:Prop}(h:P):P:=h
theorem lt2 {P:Nat->Prop}{k:Nat}(h:k<2)(h0:P 0)(h1:P 1):P k:=by
 cases k with
 |zero=>exact h0
 |succ k=>exact Nat.lt_one_iff.mp (Nat.lt_of_succ_lt_succ h)▸h1
theorem lt3 {P:Nat->Prop}{k:Nat}(h:k<3)(h0:P 0)(h1:P 1)(h2:P 2):P k:=by
 cases k with
 |zero=>exact h0
 |succ k=>exact lt2 (P:=fun k=>P (k+1)) (Nat.lt_of_succ_lt_succ h) h1 h2
theorem lt4 {P:Nat->Prop}{k:Nat}(h:k<4)(h0:P 0)(h1:P 1)(h2:P 2)(h3:P 3):P k:=by
 cases k with
 |zero=>exact h0
 |succ k=>exact lt3 (P:=fun k=>P (k+1)) (Nat.lt_of_succ_lt_succ h) h1 h2 h3
theorem ex1 {α0:Type}{P:α0->Prop}{G:Prop}(h:∃a0,P a0)(f:∀a0,P a0->G):G:=h.elim f
theorem ex2 {α0 α1:Type}{P:α0->α1->Prop}{G:Prop}(h:∃a0 a1,P a0 a1)(f:∀a0 a1,P a0 a1->G):G:=h.elim fun a0 h=>ex1 h (f a0)
theorem ex3 {α0 α1 α2:Type}{P:α0->α1->α2->Prop}{G:Prop}(h:∃a0 a1 a2,P a0 a1 a2)(f:∀a0 a1 a2,P a0 a1 a2->G):G:=h.elim fun a0 h=>ex2 h (f a0)
theorem ex4 {α0 α1 α2 α3:Type}{P:α0->α1->α2->α3->Prop}{G:Prop}(h:∃a0 a1 a2 a3,P a0 a1 a2 a3)(f:∀a0 a1 a2 a3,P a0 a1 a2 a3->G):G:=h.elim fun a0 h=>ex3 h (f a0)
theorem ex5 {α0 α1 α2 α3 α4:Type}{P:α0->α1->α2->α3->α4->Prop}{G:Prop}(h:∃a0 a1 a2 a3 a4,P a0 a1 a2 a3 a4)(f:∀a0 a1 a2 a3 a4,P a0 a1 a2 a3 a4->G):G:=h.elim fun a0 h=>ex4 h (f a0)
theorem ex6 {α0 α1 α2 α3 α4 α5:Type}{P:α0->α1->α2->α3->α4->α5->Prop}{G:Prop}(h:∃a0 a1 a2 a3 a4 a5,P a0 a1 a2 a3 a4 a5)(f:∀a0 a1 a2 a3 a4 a5,P a0 a1 a2 a3 a4 a5->G):G:=h.elim fun a0 h=>ex5 h (f a0)
theorem ex7 {α0 α1 α2 α3 α4 α5 α6:Type}{P:α0->α1->α2->α3->α4->α5->α6->Prop}{G:Prop}(h:∃a0 a1 a2 a3 a4 a5 a6,P a0 a1 a2 a3 a4 a5 a6)(f:∀a0 a1 a2 a3 a4 a5 a6,P a0 a1 a2 a3 a4 a5 a6->G):G:=h.elim fun a0 h=>ex6 h (f a0)
theorem ex8 {α0 α1 α2 α3 α4 α5 α6 α7:Type}{P:α0->α1->α2->α3->α4->α5->α6->α7->Prop}{G:Prop}(h:∃a0 a1 a2 a3 a4 a5 a6 a7,P a0 a1 a2 a3 a4 a5 a6 a7)(f:∀a0 a1 a2 a3 a4 a5 a6 a7,P a0 a1 a2 a3 a4 a5 a6 a7->G):G:=h.elim fun a0 h=>ex7 h (f a0)
theorem ex9 {α0 α1 α2 α3 α4 α5 α6 α7 α8:Type}{P:α0->α1->α2->α3->α4->α5->α6->α7->α8->Prop}{G:Prop}(h:∃a0 a1 a2 a3 a4 a5 a6 a7 a8,P a0 a1 a2 a3 a4 a5 a6 a7 a8)(f:∀a0 a1 a2 a3 a4 a5 a6 a7 a8,P a0 a1 a2 a3 a4 a5 a6 a7 a8->G):G:=h.elim fun a0 h=>ex8 h (f a0)
theorem xe2 {α0 α1:Type}{P:α0->α1->Prop}{G:Prop}(f:∀a0 a1,P a0 a1->G)(h:∃a0 a1,P a0 a1):G:=ex2 h f
theorem xe4 {α0 α1 α2 α3:Type}{P:α0->α1->α2->α3->Prop}{G:Prop}(f:∀a0 a1 a2 a3,P a0 a1 a2 a3->G)(h:∃a0 a1 a2 a3,P a0 a1 a2 a3):G:=ex4 h f
theorem ei4 {α0 α1 α2 α3:Type}{P:α0->α1->α2->α3->Prop}(a0:α0)( a1:α1)( a2:α2)( a3:α3)(h:P a0 a1 a2 a3):∃a0 a1 a2 a3,P a0 a1 a2 a3:=⟨a0,a1,a2,a3,h⟩
theorem ei5 {α0 α1 α2 α3 α4:Type}{P:α0->α1->α2->α3->α4->Prop}(a0:α0)( a1:α1)( a2:α2)( a3:α3)( a4:α4)(h:P a0 a1 a2 a3 a4):∃a0 a1 a2 a3 a4,P a0 a1 a2 a3 a4:=⟨a0,a1,a2,a3,a4,h⟩
theorem ei6 {α0 α1 α2 α3 α4 α5:Type}{P:α0->α1->α2->α3->α4->α5->Prop}(a0:α0)( a1:α1)( a2:α2)( a3:α3)( a4:α4)( a5:α5)(h:P a0 a1 a2 a3 a4 a5):∃a0 a1 a2 a3 a4 a5,P a0 a1 a2 a3 a4 a5:=⟨a0,a1,a2,a3,a4,a5,h⟩
theorem ei7 {α0 α1 α2 α3 α4 α5 α6:Type}{P:α0->α1->α2->α3->α4->α5->α6->Prop}(a0:α0)( a1:α1)( a2:α2)( a3:α3)( a4:α4)( a5:α5)( a6:α6)(h:P a0 a1 a2 a3 a4 a5 a6):∃a0 a1 a2 a3 a4 a5 a6,P a0 a1 a2 a3 a4 a5 a6:=⟨a0,a1,a2,a3,a4,a5,a6,h⟩
theorem ei8 {α0 α1 α2 α3 α4 α5 α6 α7:Type}{P:α0->α1->α2->α3->α4->α5->α6->α7->Prop}(a0:α0)( a1:α1)( a2:α2)( a3:α3)( a4:α4)( a5:α5)( a6:α6)( a7:α7)(h:P a0 a1 a2 a3 a4 a5 a6 a7):∃a0 a1 a2 a3 a4 a5 a6 a7,P a0 a1 a2 a3 a4 a5 a6 a7:=⟨a0,a1,a2,a3,a4,a5,a6,a7,h⟩
theorem ei9 {α0 α1 α2 α3 α4 α5 α6 α7 α8:Type}{P:α0->α1->α2->α3->α4->α5->α6->α7->α8->Prop}(a0:α0)(a1:α1)(a2:α2)(a3:α3)(a4:α4)(a5:α5)(a6:α6)(a7:α7)(a8:α8)(h:P a0 a1 a2 a3 a4 a5 a6 a7 a8):∃a0 a1 a2 a3 a4 a5 a6 a7 a8,P a0 a1 a2 a3 a4 a5 a6 a7 a8:=⟨a0,a1,a2,a3,a4,a5,a6,a7,a8,h⟩
theorem ei10 {α0 α1 α2 α3 α4 α5 α6 α7 α8 α9:Type}{P:α0->α1->α2->α3->α4->α5->α6->α7->α8->α9->Prop}(a0:α0)(a1:α1)(a2:α2)(a3:α3)(a4:α4)(a5:α5)(a6:α6)(a7:α7)(a8:α8)(a9:α9)(h:P a0 a1 a2 a3 a4 a5 a6 a7 a8 a9):∃a0 a1 a2 a3 a4 a5 a6 a7 a8 a9,P a0 a1 a2 a3 a4 a5 a6 a7 a8 a9:=⟨a0,a1,a2,a3,a4,a5,a6,a7,a8,a9,h⟩
theorem ei11 {α0 α1 α2 α3 α4 α5 α6 α7 α8 α9 α10:Type}{P:α0->α1->α2->α3->α4->α5->α6->α7->α8->α9->α10->Prop}(a0:α0)( a1:α1)( a2:α2)( a3:α3)( a4:α4)( a5:α5)( a6:α6)( a7:α7)( a8:α8)( a9:α9)( a10:α10)(h:P a0 a1 a2 a3 a4 a5 a6 a7 a8 a9 a10):∃a0 a1 a2 a3 a4 a5 a6 a7 a8 a9 a10,P a0 a1 a2 a3 a4 a5 a6 a7 a8 a9 a10:=⟨a0,a1,a2,a3,a4,a5,a6,a7,a8,a9,a10,h⟩
theorem ei13 {α0 α1 α2 α3 α4 α5 α6 α7 α8 α9 α10 α11 α12:Type}{P:α0->α1->α2->α3->α4->α5->α6->α7->α8->α9->α10->α11->α12->Prop}(a0:α0)( a1:α1)( a2:α2)( a3:α3)( a4:α4)( a5:α5)( a6:α6)( a7:α7)( a8:α8)( a9:α9)( a10:α10)( a11:α11)( a12:α12)(h:P a0 a1 a2 a3 a4 a5 a6 a7 a8 a9 a10 a11 a12):∃a0 a1 a2 a3 a4 a5 a6 a7 a8 a9 a10 a11 a12,P a0 a1 a2 a3 a4 a5 a6 a7 a8 a9 a10 a11 a12:=⟨a0,a1,a2,a3,a4,a5,a6,a7,a8,a9,a10,a11,a12,h⟩
theorem sub_s2 (n j:Nat):n-1-j=n-(j+1):=Nat.sub_right_comm n 1 j
theorem sub_s3 {n j:Nat}(h:j<n):n-(j+1)<n:=Nat.sub_lt (Nat.lt_of_le_of_lt (Nat.zero_le j) h) (Nat.succ_pos j)
theorem sub_s5 {n p y b:Nat}(h:n+1+y<=b)(hp:1<=p):n+1-p+(y+1)<=b:=by
 rw[<-Nat.add_assoc,Nat.add_right_comm]
 exact Nat.le_trans (Nat.add_le_add_right (Nat.succ_le_of_lt (Nat.sub_lt (Nat.succ_pos n) hp)) y) h
theorem an2 {p0 p1 G:Prop}(f:p0->p1->G)(h:p0/\p1):G:=f h.1 h.2
theorem ah2 {p0 p1 G:Prop}(h:p0/\p1)(f:p0->p1->G):G:=an2 f h
theorem an3 {p0 p1 p2 G:Prop}(f:p0->p1->p2->G)(h:p0/\p1/\p2):G:=an2 (f h.1) h.2
theorem ah3 {p0 p1 p2 G:Prop}(h:p0/\p1/\p2)(f:p0->p1->p2->G):G:=an3 f h
theorem an4 {p0 p1 p2 p3 G:Prop}(f:p0->p1->p2->p3->G)(h:p0/\p1/\p2/\p3):G:=an3 (f h.1) h.2
theorem ah4 {p0 p1 p2 p3 G:Prop}(h:p0/\p1/\p2/\p3)(f:p0->p1->p2->p3->G):G:=an4 f h
theorem an5 {p0 p1 p2 p3 p4 G:Prop}(f:p0->p1->p2->p3->p4->G)(h:p0/\p1/\p2/\p3/\p4):G:=an4 (f h.1) h.2
theorem ah5 {p0 p1 p2 p3 p4 G:Prop}(h:p0/\p1/\p2/\p3/\p4)(f:p0->p1->p2->p3->p4->G):G:=an5 f h
theorem an6 {p0 p1 p2 p3 p4 p5 G:Prop}(f:p0->p1->p2->p3->p4->p5->G)(h:p0/\p1/\p2/\p3/\p4/\p5):G:=an5 (f h.1) h.2
theorem an7 {p0 p1 p2 p3 p4 p5 p6 G:Prop}(f:p0->p1->p2->p3->p4->p5->p6->G)(h:p0/\p1/\p2/\p3/\p4/\p5/\p6):G:=an6 (f h.1) h.2
theorem ah7 {p0 p1 p2 p3 p4 p5 p6 G:Prop}(h:p0/\p1/\p2/\p3/\p4/\p5/\p6)(f:p0->p1->p2->p3->p4->p5->p6->G):G:=an7 f h
theorem an8 {p0 p1 p2 p3 p4 p5 p6 p7 G:Prop}(f:p0->p1->p2->p3->p4->p5->p6->p7->G)(h:p0/\p1/\p2/\p3/\p4/\p5/\p6/\p7):G:=an7 (f h.1) h.2
theorem an9 {p0 p1 p2 p3 p4 p5 p6 p7 p8 G:Prop}(f:p0->p1->p2->p3->p4->p5->p6->p7->p8->G)(h:p0/\p1/\p2/\p3/\p4/\p5/\p6/\p7/\p8):G:=an8 (f h.1) h.2
theorem ah9 {p0 p1 p2 p3 p4 p5 p6 p7 p8 G:Prop}(h:p0/\p1/\p2/\p3/\p4/\p5/\p6/\p7/\p8)(f:p0->p1->p2->p3->p4->p5->p6->p7->p8->G):G:=an9 f h
theorem an10 {p0 p1 p2 p3 p4 p5 p6 p7 p8 p9 G:Prop}(f:p0->p1->p2->p3->p4->p5->p6->p7->p8->p9->G)(h:p0/\p1/\p2/\p3/\p4/\p5/\p6/\p7/\p8/\p9):G:=an9 (f h.1) h.2
theorem an11 {p0 p1 p2 p3 p4 p5 p6 p7 p8 p9 p10 G:Prop}(f:p0->p1->p2->p3->p4->p5->p6->p7->p8->p9->p10->G)(h:p0/\p1/\p2/\p3/\p4/\p5/\p6/\p7/\p8/\p9/\p10):G:=an10 (f h.1) h.2
theorem an12 {p0 p1 p2 p3 p4 p5 p6 p7 p8 p9 p10 p11 G:Prop}(f:p0->p1->p2->p3->p4->p5->p6->p7->p8->p9->p10->p11->G)(h:p0/\p1/\p2/\p3/\p4/\p5/\p6/\p7/\p8/\p9/\p10/\p11):G:=an11 (f h.1) h.2
theorem allN {α:Type}{P:α->Prop}:∀r∈([]:List α),P r:=fun _ h=>absurd h List.not_mem_nil
theorem allB {α:Type}{P:α->Prop}{a:α}{l:List α}(h1:P a)(h2:∀r∈l,P r):∀r∈a::l,P r:=List.forall_mem_cons.mpr ⟨h1,h2⟩
theorem ledgR {α:Type}{l:List α}:∀p∈l,p∈l:=fun _ h=>h
theorem ledgD {α:Type}{a:α}{l l':List α}(h:∀p∈l,p∈l'):∀p∈l,p∈a::l':=fun p m=>.tail _ (h p m)
theorem ledgK {α:Type}{a:α}{l l':List α}(h:∀p∈l,p∈l'):∀p∈a::l,p∈a::l':=fun _ m=>(List.mem_cons.mp m).elim (fun e=>e▸.head _) fun m=>.tail _ (h _ m)
theorem slF (x:Str)(k:Nat):Txt.slice x (some (k:Int)) none=⟨(x.cps.toList.drop k).toArray⟩:=by
 by_cases h:k<=x.length
 ·rw[slice_from_eq (b:=(x.length:Int)) (by omega) (by omega) rfl]
  have e:x.cps.toList.length=x.length:=rfl
  rw[Int.toNat_natCast k,List.take_of_length_le (by rw[List.length_drop,Int.toNat_sub];exact Nat.le_refl _)]
 ·rw[slice_beyond (by omega)]
  have e:x.cps.toList.length=x.length:=rfl
  rw[List.drop_of_length_le (Nat.le_of_lt (Nat.lt_of_not_le h))]
  rfl
set_option tactic.hygienic true in
theorem slN (x:Str):Txt.slice x none none=x:=by
 unfold Txt.slice
 split
 ·rfl
 ·rename_i h
  refine absurd ?_ h
  simp[Builtin.Str.strSliceIndices,sliceRange]
  split<;>omega
theorem slT (x:Str)(k:Nat):Txt.slice x none (some (k:Int))=⟨(x.cps.toList.take k).toArray⟩:=by
 have e:x.cps.toList.length=x.length:=rfl
 by_cases h:k<=x.length
 ·have:=beq_iff_eq.mp (slice_closes_to (x:=x) (j:=(k:Int)) (by omega))
  rw[this];simp
 ·have:Txt.slice x none (some (k:Int))=Txt.slice x none none:=by
   unfold Txt.slice Builtin.Str.strSliceIndices
   have h0:¬ ((k:Int)<0):=by omega
   have h1:min (k:Int) (x.length:Int)=x.length:=by omega
   have h2:max (0:Int) (x.length:Int)=x.length:=by omega
   simp only[h0,if_false,h1,h2,show(1:Int)>0 by decide,if_true]
  rw[this,slN,List.take_of_length_le (by omega)]
theorem slTn (x:Str)(k:Nat)(h0:0<k)(h:k<=x.length):Txt.slice x none (some (-(k:Int)))=⟨(x.cps.toList.take (x.length-k)).toArray⟩:=by
 have e:x.cps.toList.length=x.length:=rfl
 have:Txt.slice x none (some (-(k:Int)))=Txt.slice x none (some ((x.length-k:Nat):Int)):=by
  unfold Txt.slice Builtin.Str.strSliceIndices
  have h0:(-(k:Int)<0):=by omega
  have h1:¬ (((x.length-k:Nat):Int)<0):=by omega
  simp only[h0,h1,if_true,if_false,show(1:Int)>0 by decide]
  rw[show(-(k:Int)+(x.length:Int))=((x.length-k:Nat):Int) by omega]
 rw[this,slT]
theorem str_len (l:List Nat):(Str.length ⟨l.toArray⟩)=l.length:=by show l.toArray.size=_;simp
theorem item_nat (x:Str)(k:Nat)(h:k<x.length):Txt.item x (k:Int)=⟨#[x.cps.toList.getD k 0]⟩:=by
 rw[PySem.W.item_meets ⟨by omega,by omega⟩]
 have:k<x.cps.size:=h
 simp[Array.getD,this]
theorem item_neg (x:Str)(k:Nat)(h0:0<k)(h:k<=x.length):Txt.item x (-(k:Int))=⟨#[x.cps.toList.getD (x.length-k) 0]⟩:=by
 have e:Txt.item x (-(k:Int))=Txt.item x ((x.length-k:Nat):Int):=by
  have e1:seqIndex? (-(k:Int)) x.length=seqIndex? ((x.length-k:Nat):Int) x.length:=by
   have q1:(if -(k:Int)<0 then -(k:Int)+(x.length:Int) else -(k:Int))=((x.length-k:Nat):Int):=by rw[if_pos (by omega)];omega
   have q2:(if ((x.length-k:Nat):Int)<0 then((x.length-k:Nat):Int)+(x.length:Int) else((x.length-k:Nat):Int))=((x.length-k:Nat):Int):=if_neg (by omega)
   unfold seqIndex?
   simp only[q1,q2]
  unfold Txt.item Txt.charAt
  rw[e1]
 rw[e,item_nat _ _ (by omega)]
theorem item_rev (x:Str)(q:Nat)(h:q<x.length):Txt.item x (-(q:Int)-1)=⟨#[x.cps.toList.reverse.getD q 0]⟩:=by
 have e:x.cps.toList.length=x.length:=rfl
 rw[show(-(q:Int)-1)= -((q+1:Nat):Int) by omega,item_neg _ _ (Nat.succ_pos q) h]
 have h1:x.length-(q+1)<x.cps.toList.length:=sub_s3 h
 have h2:q<x.cps.toList.reverse.length:=by rw[List.length_reverse];exact h
 rw[List.getD_eq_getElem?_getD,List.getD_eq_getElem?_getD,List.getElem?_eq_getElem h1,List.getElem?_eq_getElem h2,Option.getD_some,Option.getD_some,List.getElem_reverse]
 have h3:x.cps.toList.length-1-q=x.length-(q+1):=sub_s2 _ _
 simp only[h3]
noncomputable def sPre:List Nat->List Nat->List Nat×List Nat
 |x::xs,y::ys=>if x=y then sPre xs ys else(x::xs,y::ys)
 |xs,ys=>(xs,ys)
theorem sPre_cons (x y:Nat)(xs ys:List Nat):sPre (x::xs) (y::ys)=if x=y then sPre xs ys else(x::xs,y::ys):=rfl
theorem sPre_nil_l (ys:List Nat):sPre [] ys=([],ys):=by cases ys<;>rfl
theorem sPre_nil_r (xs:List Nat):sPre xs []=(xs,[]):=by cases xs<;>rfl
theorem drop_getD {l:List Nat}{k:Nat}(h:k<l.length):l.drop k=l.getD k 0::l.drop (k+1):=by
 rw[List.drop_eq_getElem_cons h]
 simp[List.getD,h]
theorem sPre_step {x y:List Nat}{k:Nat}(hx:k<x.length)(hy:k<y.length)(e:x.getD k 0=y.getD k 0):sPre (x.drop (k+1)) (y.drop (k+1))=sPre (x.drop k) (y.drop k):=by
 rw[drop_getD hx,drop_getD hy,e,sPre_cons,if_pos rfl]
theorem sPre_stop {x y:List Nat}{k:Nat}(h:x.length<=k∨y.length<=k∨x.getD k 0≠y.getD k 0):sPre (x.drop k) (y.drop k)=(x.drop k,y.drop k):=by
 by_cases hx:x.length<=k
 ·rw[List.drop_of_length_le hx,sPre_nil_l]
 ·by_cases hy:y.length<=k
  ·rw[List.drop_of_length_le hy,sPre_nil_r]
  ·have hne:x.getD k 0≠y.getD k 0:=by rcases h with h|h|h<;>first|exact h|omega
   rw[drop_getD (by omega),drop_getD (by omega:k<y.length)]
   exact if_neg hne
theorem slF_len (x:Str)(k:Nat):(Txt.slice x (some (k:Int)) none).length=x.length-k:=by rw[slF,str_len,List.length_drop];rfl
theorem slQ (x:Str)(q:Nat)(h:q<=x.length):Txt.slice x none (if -(q:Int)=0 then none else some (-(q:Int)))=⟨(x.cps.toList.take (x.length-q)).toArray⟩:=by
 by_cases h0:q=0
 ·subst h0
  rw[if_pos (by decide),slN,Nat.sub_zero,List.take_of_length_le (show x.cps.toList.length<=x.length from Nat.le_refl _)]
 ·rw[if_neg (by omega),slTn x q (Nat.pos_of_ne_zero h0) h]
theorem slQ_len (x:Str)(q:Nat)(h:q<=x.length):(Txt.slice x none (if -(q:Int)=0 then none else some (-(q:Int)))).length=x.length-q:=by
 rw[slQ x q h,str_len,List.length_take]
 exact Nat.min_eq_left (Nat.sub_le _ _)
theorem sgl_eq {a b:Nat}:(⟨#[a]⟩:Str)=⟨#[b]⟩↔a=b:=by simp
end Uc
end
section
namespace Uc
noncomputable def subCost (a b:Str):Int:=if a=b then 0 else if Txt.lower a=Txt.lower b then 1 else 2
noncomputable def cst (c d:Nat):Int:=subCost ⟨#[c]⟩ ⟨#[d]⟩
noncomputable def BIG:Int:=9223372036854775807
noncomputable def inner (c:Nat):List Nat->List Int->Int->Int->Int->List Int×Int×Int
 |x::xs,r::rs,d,res,mn=>
  let res':=min (min res r+2) (d+cst c x)
  let t:=inner c xs rs r res' (if res'<mn then res' else mn)
  (res'::t.1,t.2)
 |_,rs,_,res,mn=>(rs,res,mn)
noncomputable def outer (xs:List Nat)(mx:Int):List Nat->Nat->List Int->Int->Int
 | [],_,_,res=>res
 |c::cs,bi,row,_=>
  let t:=inner c xs row ((bi:Int)*2) ((bi:Int)*2) BIG
  if mx<t.2.2 then mx+1 else outer xs mx cs (bi+1) t.1 t.2.1
noncomputable def row0 (n:Nat):List Int:=(List.range n).map fun(i:Nat)=>2+(i:Int)*2
noncomputable def lev3 (a b:List Nat)(mx:Int):Int:=
 if mx<((b.length:Int)-a.length)*2 then mx+1 else outer a mx b 0 (row0 a.length) 0
noncomputable def lev2 (a b:List Nat)(mx:Int):Int:=
 if a.length=0∨b.length=0 then 2*((a.length:Int)+b.length)
 else if 40<a.length∨40<b.length then mx+1
 else if b.length<a.length then lev3 b a mx else lev3 a b mx
noncomputable def levL (a b:List Nat)(mx:Int):Int:=
 if a=b then 0 else
 let p:=sPre a b
 let q:=sPre p.1.reverse p.2.reverse
 lev2 q.1.reverse q.2.reverse mx
noncomputable def levS (a b:Str)(mx:Int):Int:=levL a.cps.toList b.cps.toList mx
end Uc
end
section
namespace Uc
noncomputable def Hid {α:Type}(P Z:α->Shared->Prop):Prop:=∀a s,P a s->Z a s
theorem isW {M:Model}{A:Around}{Q:Flow->Shared->Prop}{E:Value->Shared->Prop}{s:Shared}{t:Expr}{b o:List Stmt}{p:Pos}{env:Env}(h:wpAny M A (exec (.While t b o p) env) Q E s):wpAny M A (exec (.While t b o p) env) Q E s:=h
theorem isI {M:Model}{A:Around}{Q:Value->Shared->Prop}{E:Value->Shared->Prop}{s:Shared}{v:Value}(h:wpAny M A (pyIter v) Q E s):wpAny M A (pyIter v) Q E s:=h
theorem Hid.go {α:Type}{P Z:α->Shared->Prop}{a:α}{s:Shared}(h:Hid P Z)(q:P a s):Z a s:=h a s q
theorem fpLLoooooRoooooR {α0 α1 α2 α3 α4 α5 α6 α7 α8 α9:Type}{P:((α0×α1×α2×α3×α4)×α5×α6×α7×α8×α9)->Prop}(h:∀a0 a1 a2 a3 a4 a5 a6 a7 a8 a9,P ((a0,a1,a2,a3,a4),a5,a6,a7,a8,a9)):∀c,P c:=fun c=>h c.1.1 c.1.2.1 c.1.2.2.1 c.1.2.2.2.1 c.1.2.2.2.2 c.2.1 c.2.2.1 c.2.2.2.1 c.2.2.2.2.1 c.2.2.2.2.2
theorem fpLLoooooRoooR {α0 α1 α2 α3 α4 α5 α6 α7:Type}{P:((α0×α1×α2×α3×α4)×α5×α6×α7)->Prop}(h:∀a0 a1 a2 a3 a4 a5 a6 a7,P ((a0,a1,a2,a3,a4),a5,a6,a7)):∀c,P c:=fun c=>h c.1.1 c.1.2.1 c.1.2.2.1 c.1.2.2.2.1 c.1.2.2.2.2 c.2.1 c.2.2.1 c.2.2.2
noncomputable abbrev Led:=List (Addr×Obj)
theorem fpLooooR {α0 α1 α2 α3:Type}{P:(α0×α1×α2×α3)->Prop}(h:∀a0 a1 a2 a3,P (a0,a1,a2,a3)):∀c,P c:=fun c=>h c.1 c.2.1 c.2.2.1 c.2.2.2
theorem fpLooR {α0 α1:Type}{P:(α0×α1)->Prop}(h:∀a0 a1,P (a0,a1)):∀c,P c:=fun c=>h c.1 c.2
theorem fpLoooooR {α0 α1 α2 α3 α4:Type}{P:(α0×α1×α2×α3×α4)->Prop}(h:∀a0 a1 a2 a3 a4,P (a0,a1,a2,a3,a4)):∀c,P c:=fun c=>h c.1 c.2.1 c.2.2.1 c.2.2.2.1 c.2.2.2.2
theorem fpLLooooRooooR {α0 α1 α2 α3 α4 α5 α6 α7:Type}{P:((α0×α1×α2×α3)×α4×α5×α6×α7)->Prop}(h:∀a0 a1 a2 a3 a4 a5 a6 a7,P ((a0,a1,a2,a3),a4,a5,a6,a7)):∀c,P c:=fun c=>h c.1.1 c.1.2.1 c.1.2.2.1 c.1.2.2.2 c.2.1 c.2.2.1 c.2.2.2.1 c.2.2.2.2
theorem fpLLooooooRoooooooR {α0 α1 α2 α3 α4 α5 α6 α7 α8 α9 α10 α11 α12:Type}{P:((α0×α1×α2×α3×α4×α5)×α6×α7×α8×α9×α10×α11×α12)->Prop}(h:∀a0 a1 a2 a3 a4 a5 a6 a7 a8 a9 a10 a11 a12,P ((a0,a1,a2,a3,a4,a5),a6,a7,a8,a9,a10,a11,a12)):∀c,P c:=fun c=>h c.1.1 c.1.2.1 c.1.2.2.1 c.1.2.2.2.1 c.1.2.2.2.2.1 c.1.2.2.2.2.2 c.2.1 c.2.2.1 c.2.2.2.1 c.2.2.2.2.1 c.2.2.2.2.2.1 c.2.2.2.2.2.2.1 c.2.2.2.2.2.2.2
theorem fpLoooooooR {α0 α1 α2 α3 α4 α5 α6:Type}{P:(α0×α1×α2×α3×α4×α5×α6)->Prop}(h:∀a0 a1 a2 a3 a4 a5 a6,P (a0,a1,a2,a3,a4,a5,a6)):∀c,P c:=fun c=>h c.1 c.2.1 c.2.2.1 c.2.2.2.1 c.2.2.2.2.1 c.2.2.2.2.2.1 c.2.2.2.2.2.2
theorem fpLooooooooR {α0 α1 α2 α3 α4 α5 α6 α7:Type}{P:(α0×α1×α2×α3×α4×α5×α6×α7)->Prop}(h:∀a0 a1 a2 a3 a4 a5 a6 a7,P (a0,a1,a2,a3,a4,a5,a6,a7)):∀c,P c:=fun c=>h c.1 c.2.1 c.2.2.1 c.2.2.2.1 c.2.2.2.2.1 c.2.2.2.2.2.1 c.2.2.2.2.2.2.1 c.2.2.2.2.2.2.2
theorem fpLoooR {α0 α1 α2:Type}{P:(α0×α1×α2)->Prop}(h:∀a0 a1 a2,P (a0,a1,a2)):∀c,P c:=fun c=>h c.1 c.2.1 c.2.2
theorem kEn1v {A0:Type}{V:A0->Value}{X:Led}{C:Value->Led->Heap->Nat->Prop}(k:∀a0 h tk,C (V a0) X h tk):∀v n h tk,(n=X/\∃a0,v=(V a0))->C v n h tk:=by
 rintro v n h tk ⟨rfl,a0,rfl⟩
 exact k a0 h tk
theorem kE2nv {A0 A1:Type}{V:A0->A1->Value}{X:A0->A1->Led}{C:Value->Led->Heap->Nat->Prop}(k:∀a0 a1 h tk,C (V a0 a1) (X a0 a1) h tk):∀v n h tk,(∃a0 a1,n=(X a0 a1)/\v=(V a0 a1))->C v n h tk:=by
 rintro v n h tk ⟨a0,a1,rfl,rfl⟩
 exact k a0 a1 h tk
theorem kE3nv {A0 A1 A2:Type}{V:A0->A1->A2->Value}{X:A0->A1->A2->Led}{C:Value->Led->Heap->Nat->Prop}(k:∀a0 a1 a2 h tk,C (V a0 a1 a2) (X a0 a1 a2) h tk):∀v n h tk,(∃a0 a1 a2,n=(X a0 a1 a2)/\v=(V a0 a1 a2))->C v n h tk:=by
 intro v n h tk w4q;(refine Uc.ex3 w4q fun a0 a1 a2=>Uc.an2 fun e1q e2q=>?_;clear w4q;subst e1q;subst e2q)
 exact k a0 a1 a2 h tk
theorem kE3vn {A0 A1 A2:Type}{V:A0->A1->A2->Value}{X:A0->A1->A2->Led}{C:Value->Led->Heap->Nat->Prop}(k:∀a0 a1 a2 h tk,C (V a0 a1 a2) (X a0 a1 a2) h tk):∀v n h tk,(∃a0 a1 a2,v=(V a0 a1 a2)/\n=(X a0 a1 a2))->C v n h tk:=by
 intro v n h tk w5q;(refine Uc.ex3 w5q fun a0 a1 a2=>Uc.an2 fun e1q e2q=>?_;clear w5q;subst e1q;subst e2q)
 exact k a0 a1 a2 h tk
theorem kE4pnv {A0 A1 A2 A3:Type}{V:A0->A1->A2->A3->Value}{X:A0->A1->A2->A3->Led}{P:A0->A1->A2->A3->Prop}{C:Value->Led->Heap->Nat->Prop}(k:∀a0 a1 a2 a3 h tk,(P a0 a1 a2 a3)->C (V a0 a1 a2 a3) (X a0 a1 a2 a3) h tk):∀v n h tk,(∃a0 a1 a2 a3,(P a0 a1 a2 a3)/\n=(X a0 a1 a2 a3)/\v=(V a0 a1 a2 a3))->C v n h tk:=by
 intro v n h tk w6q;(refine Uc.ex4 w6q fun a0 a1 a2 a3=>Uc.an3 fun hp e1q e2q=>?_;clear w6q;subst e1q;subst e2q)
 exact k a0 a1 a2 a3 h tk hp
theorem kE0nv {V:Value}{X:Led}{C:Value->Led->Heap->Nat->Prop}(k:∀h tk,C V X h tk):∀v n h tk,(n=X/\v=V)->C v n h tk:=by
 rintro v n h tk ⟨rfl,rfl⟩
 exact k h tk
theorem kE5npv {A0 A1 A2 A3 A4:Type}{V:A0->A1->A2->A3->A4->Value}{X:A0->A1->A2->A3->A4->Led}{P:A0->A1->A2->A3->A4->Prop}{C:Value->Led->Heap->Nat->Prop}(k:∀a0 a1 a2 a3 a4 h tk,(P a0 a1 a2 a3 a4)->C (V a0 a1 a2 a3 a4) (X a0 a1 a2 a3 a4) h tk):∀v n h tk,(∃a0 a1 a2 a3 a4,n=(X a0 a1 a2 a3 a4)/\(P a0 a1 a2 a3 a4)/\v=(V a0 a1 a2 a3 a4))->C v n h tk:=by
 intro v n h tk w10q;(refine Uc.ex5 w10q fun a0 a1 a2 a3 a4=>Uc.an3 fun e1q hp e2q=>?_;clear w10q;subst e1q;subst e2q)
 exact k a0 a1 a2 a3 a4 h tk hp
theorem kE1nv {A0:Type}{V:A0->Value}{X:A0->Led}{C:Value->Led->Heap->Nat->Prop}(k:∀a0 h tk,C (V a0) (X a0) h tk):∀v n h tk,(∃a0,n=(X a0)/\v=(V a0))->C v n h tk:=by
 rintro v n h tk ⟨a0,rfl,rfl⟩
 exact k a0 h tk
theorem kE13nvp {A0 A1 A2 A3 A4 A5 A6 A7 A8 A9 A10 A11 A12:Type}{V:A0->A1->A2->A3->A4->A5->A6->A7->A8->A9->A10->A11->A12->Value}{X:A0->A1->A2->A3->A4->A5->A6->A7->A8->A9->A10->A11->A12->Led}{P:A0->A1->A2->A3->A4->A5->A6->A7->A8->A9->A10->A11->A12->Prop}{C:Value->Led->Heap->Nat->Prop}(k:∀a0 a1 a2 a3 a4 a5 a6 a7 a8 a9 a10 a11 a12 h tk,(P a0 a1 a2 a3 a4 a5 a6 a7 a8 a9 a10 a11 a12)->C (V a0 a1 a2 a3 a4 a5 a6 a7 a8 a9 a10 a11 a12) (X a0 a1 a2 a3 a4 a5 a6 a7 a8 a9 a10 a11 a12) h tk):∀v n h tk,(∃a0 a1 a2 a3 a4 a5 a6 a7 a8 a9 a10 a11 a12,n=(X a0 a1 a2 a3 a4 a5 a6 a7 a8 a9 a10 a11 a12)/\v=(V a0 a1 a2 a3 a4 a5 a6 a7 a8 a9 a10 a11 a12)/\(P a0 a1 a2 a3 a4 a5 a6 a7 a8 a9 a10 a11 a12))->C v n h tk:=by
 intro v n h tk w14q;(refine Uc.ex9 w14q fun a0 a1 a2 a3 a4 a5 a6 a7 a8=>Uc.xe4 fun a9 a10 a11 a12=>Uc.an3 fun e1q e2q hp=>?_;clear w14q;subst e1q;subst e2q)
 exact k a0 a1 a2 a3 a4 a5 a6 a7 a8 a9 a10 a11 a12 h tk hp
end Uc
namespace Uc
noncomputable abbrev Pm:Program:=Challenge.rw_uc0057_01.prog
noncomputable abbrev Con (w:World)(p:Program)(loose:List Str)(mean:ExcName->Option Value)(mg mb:Str->Option Value)(f:Addr)(d u:Nat)(vs:List Value)(news:List (Addr×Obj))(pre:Heap->Prop)(R:Value->List (Addr×Obj)->Prop):Prop:=
 ∀(dp un:Nat) (gd:Option (List Code)) (cn:Str) (cs:Scope) (a:Addr) (ccd:Value) (cl:List (Str×Addr)) (outer:List Env) (A₀:Around) (base h₀:Heap) (L:Addr) (m:Str->Option Value) (s:Shared) (Q E:Value->Shared->Prop),
  Below A₀ base outer h₀->Fr h₀ L s.heap m->(K w.params).In h₀->News h₀ L s.heap news->Top p loose mean mg mb h₀->cs.kind=.function->pre base->dp+d<recursionLimit->un+u<cLine->
  (∀v news' h' tk',R v news'->Fr h₀ L h' m->News h₀ L h' news'->Q v { s with heap:=h',toks:=tk' })->
  wpAny (model Pm w) (ktrTop dp un gd cn cs L a ccd cl outer) (call (.ref f) vs) Q E s
noncomputable abbrev Nms:=List (Str×Value)
noncomputable def fm (u:Str->Option Value):Nms->Str->Option Value
 | []=>u
 |p::r=>fun z=>if z=p.1 then some p.2 else fm u r z
noncomputable def Has (m:Str->Option Value):Nms->Prop
 | []=>True
 |p::r=>m p.1=some p.2/\Has m r
theorem allLt_all {d:Addr}:∀{l:Led},AllLt d l->∀p∈l,p.1<d
 | [],_,p,h=>absurd h List.not_mem_nil
 |q::l,h,p,hp=>by
  rcases List.mem_cons.mp hp with rfl|hp
  ·exact h.1
  ·exact allLt_all h.2 p hp
theorem News.cutLt {h₀ h:Heap}{L d:Addr}{o:Obj}{r:Led}(N:News h₀ L h ((d,o)::r))(a:AllLt d r):∃R,R=r/\News h₀ L h ((d,o)::R)/\∀q∈R,q.1≠d:=⟨r,rfl,N,fun q hq=>Nat.ne_of_lt (allLt_all a q hq)⟩
theorem News.ne {h₀ h:Heap}{L a b:Addr}{oa ob:Obj}{l:Led}(N:News h₀ L h l)(ha:(a,oa)∈l)(hb:(b,ob)∈l)(hd:oa.cls≠ob.cls):a≠b:=fun e=>by
 have x:=(N _ ha).1
 have y:=(N _ hb).1
 dsimp only at x y
 rw[e,y] at x
 exact hd (congrArg Obj.cls (Option.some.inj x).symm)
theorem fm_eq {m:Str->Option Value}:∀{l:Nms},Has m l->fm m l=m
 | [],_=>rfl
 |p::r,h=>by
  funext z
  show(if z=p.1 then some p.2 else fm m r z)=m z
  by_cases q:z=p.1
  ·rw[if_pos q,q];exact h.1.symm
  ·rw[if_neg q,fm_eq h.2]
theorem News.sub {h₀ h:Heap}{L:Addr}{a b:Led}(N:News h₀ L h a)(hs:∀p∈b,p∈a):News h₀ L h b:=fun p hp=>N p (hs p hp)
theorem rsize2 {n:Nat}{x:Int}(h:x=2*((n:Int)+1)):Builtin.Range.rangeSize 2 x 2=(n:Int):=by
 subst h
 unfold Builtin.Range.rangeSize
 rw[if_pos (by decide)]
 split<;>omega
theorem rsize1 {n:Nat}{x:Int}(h:x=(n:Int)):Builtin.Range.rangeSize 0 x 1=(n:Int):=by
 subst h
 unfold Builtin.Range.rangeSize
 rw[if_pos (by decide)]
 split<;>omega
theorem rsmall {a b c:Int}(h1:0<=a)(h2:a<=1000000)(h3: -1000000<=b)(h4:b<=1000000)(h5:1<=c)(h6:c<=1000):Builtin.Range.small a b c=true:=by
 have hn:0<=Builtin.Range.rangeSize a b c/\Builtin.Range.rangeSize a b c<=2000000:=by
  unfold Builtin.Range.rangeSize
  rw[if_pos (by omega)]
  split
  ·have h0:0<=(b-a-1) / c:=Int.ediv_nonneg (by omega) (by omega)
   have h1:(b-a-1) / c<=b-a-1:=Int.ediv_le_self _ (by omega)
   omega
  ·omega
 have fit:∀i:Int, -10000000<=i->i<=10000000->Builtin.Range.rangeFitsLong i=true:=fun i p q=>by
  unfold Builtin.Range.rangeFitsLong
  simp only[Bool.and_eq_true,decide_eq_true_eq]
  omega
 unfold Builtin.Range.small
 rw[fit a (by omega) (by omega),fit b (by omega) (by omega),fit c (by omega) (by omega),fit _ (by omega) (by omega),if_pos (by omega),fit _ (by omega) (by omega)]
 simp
section
variable {prog:Program}{w:World}{A:Around}{E:Value->Shared->Prop}{Q:Flow->Shared->Prop}{s:Shared}{env:Env}{h₀:Heap}{x:Str}{body:List Stmt}
noncomputable def Got (h₀:Heap)(L:Addr){σ:Type}(led:σ->Led)(ps:σ->Nms)(P:σ->Prop)(s s':Shared):Prop:=
 ∃c' m' h' tk',s'={ s with heap:=h',toks:=tk' }/\Fr h₀ L h' m'/\News h₀ L h' (led c')/\Has m' (ps c')/\P c'
theorem Got.mk {h₀ h':Heap}{L:Addr}{σ:Type}{led:σ->Led}{ps:σ->Nms}{P:σ->Prop}{s:Shared}{m':Str->Option Value}{news':Led}{tk':Nat}(c':σ)
  (F:Fr h₀ L h' m') (N:News h₀ L h' news') (hs:∀p∈led c',p∈news') (hk:Has m' (ps c')) (hp:P c'):Got h₀ L led ps P s { s with heap:=h',toks:=tk' }:=Uc.ei4 c' m' h' tk' ⟨rfl,F,News.sub N hs,hk,hp⟩
theorem for_c {σ:Type}{I:Addr}{fp wr:List Addr}{n:Nat}{P:Nat->Value->Prop}{St:Nat->Heap->Prop}{m₀:Str->Option Value}(led:σ->Led)(ps:σ->Nms)(R:Nat->σ->Prop)(c₀:σ)
  (W:Walks prog w A I fp wr n P St) (hLf:env.locals ∉ fp) (hwr:∀b∈wr,h₀.get? b=none) (hst:St 0 s.heap)
  (F:Fr h₀ env.locals s.heap m₀) (N:News h₀ env.locals s.heap (led c₀)) (hnw:∀p∈led c₀,p.1 ∉ wr) (hk:Has m₀ (ps c₀)) (hp:R 0 c₀)
  (turn:∀i v (c:σ) (u:Str->Option Value) h tk own,i<n->P i v->R i c->(∀p∈led c,p.1 ∉ wr)->
   (∀b∈wr,∀o,h.get? b=some o->(b,o)∈own)->(∀p∈own,p.1∈fp/\h.get? p.1=some p.2)->St (i+1) h->Fr h₀ env.locals h (fun y=>if y=x then some v else fm u (ps c) y)->News h₀ env.locals h (led c++own)->
   wpAny (model prog w) A (execs body env) (fun f s'=>match f with
    | .ret v=>Q (.ret v) s'
    | .brk=>Q .next s'
    |_=>∃c' m' h' tk',s'={ s with heap:=h',toks:=tk' }/\Fr h₀ env.locals h' m'/\News h₀ env.locals h' (led c'++own)/\(∀p∈led c',p.1 ∉ wr)/\Has m' (ps c')/\R (i+1) c') E { s with heap:=h,toks:=tk })
  (done:∀c u h tk,R n c->Fr h₀ env.locals h (fm u (ps c))->News h₀ env.locals h (led c)->Q .next { s with heap:=h,toks:=tk }):
  LoopAtV prog w A h₀ env x body Q E (.ref I) s:=by
 refine Uc.ei9 I fp wr n P St m₀ (led c₀) (fun i m nx=>∃c:σ,nx=led c/\Has m (ps c)/\R i c) ⟨rfl,W,hLf,hwr,hnw,hst,F,N,⟨c₀,rfl,hk,hp⟩,?_,?_⟩
 ·intro i v m₁ nx s₁ own w19q hi hP w20q hnw' hin hown1 hown st F₁ N₁;obtain⟨h,tk,rfl⟩:=w19q;(refine Uc.ex1 w20q fun c=>Uc.an3 fun e1q h1 hR=>?_;clear w20q;subst e1q)
  have N₂:News h₀ env.locals h (led c++own):=fun p hp=>N₁ p (by rw[List.mem_append] at hp ⊢;exact hp.symm)
  refine wpAny_mono (turn i v c m₁ h tk own hi hP hR hnw' (fun b hb o ho=>hown b (W.sub b hb) (hwr b hb) o ho) (fun p hp=>⟨hin p hp,hown1 p hp⟩) st (by rw[fm_eq h1];exact F₁) N₂) (fun f s₂ q=>?_) fun _ _ x=>x
  have fin:(∃c' m' h' tk',s₂={ s with heap:=h',toks:=tk' }/\Fr h₀ env.locals h' m'/\News h₀ env.locals h' (led c'++own)/\(∀p∈led c',p.1 ∉ wr)/\Has m' (ps c')/\R (i+1) c')->
    LoopStepU h₀ env.locals wr own (fun m nx=>∃c:σ,nx=led c/\Has m (ps c)/\R (i+1) c) { s with heap:=h,toks:=tk } .next s₂:=by
   intro w21q;(refine Uc.ex4 w21q fun c' m' h' tk'=>Uc.an6 fun e1q F' N' hn' hk' hR'=>?_;clear w21q;subst e1q)
   exact⟨rfl,h',tk',m',led c',rfl,F',fun p hp=>N' p (by rw[List.mem_append] at hp ⊢;exact hp.symm),hn',c',rfl,hk',hR'⟩
  cases f with
  |ret v=>exact .ret q
  |brk=>exact .brk q
  |next=>exact .next (fin q)
  |cont=>exact .cont (fin q)
 ·rintro h' tk m' nx F' N' _ ⟨c,rfl,h1,hR⟩
  exact done c m' h' tk hR (by rw[fm_eq h1];exact F') N'
noncomputable def isIt (o:Obj):Bool:=match o.data with
 | .fields _=>true
 |_=>false
noncomputable def Turn (h₀:Heap)(L:Addr){σ:Type}(led:σ->Led)(ps:σ->Nms)(R:σ->Prop)(c:σ)(I:Addr)(o:Obj)(s:Shared)(Q:Flow->Shared->Prop)(f:Flow)(s':Shared):Prop:=match f with
 | .ret v=>Q (.ret v) s'
 | .brk=>Q .next s'
 |_=>∃c' m' h' tk',s'={ s with heap:=h',toks:=tk' }/\Fr h₀ L h' m'/\News h₀ L h' (led c'++[(I,o)])/\(∀p∈led c',p.1∈(led c).map (·.1)∨isIt p.2=false)/\Has m' (ps c')/\R c'
theorem Turn.next {h₀ h':Heap}{L:Addr}{σ:Type}{led:σ->Led}{ps:σ->Nms}{R:σ->Prop}{c:σ}{I:Addr}{o:Obj}{s:Shared}{Q:Flow->Shared->Prop}{m':Str->Option Value}{news':Led}{tk':Nat}(c':σ)
  (F:Fr h₀ L h' m') (N:News h₀ L h' news') (hs:∀p∈led c'++[(I,o)],p∈news') (ha:∀p∈led c',p.1∈(led c).map (·.1)∨isIt p.2=false) (hk:Has m' (ps c')) (hp:R c'):Turn h₀ L led ps R c I o s Q .next { s with heap:=h',toks:=tk' }:=
 Uc.ei4 c' m' h' tk' ⟨rfl,F,News.sub N hs,ha,hk,hp⟩
theorem Turn.brk {h₀:Heap}{L:Addr}{σ:Type}{led:σ->Led}{ps:σ->Nms}{R:σ->Prop}{c:σ}{I:Addr}{o:Obj}{s s':Shared}{Q:Flow->Shared->Prop}(h:Q .next s'):Turn h₀ L led ps R c I o s Q .brk s':=h
theorem apart {h₀ h:Heap}{L I:Addr}{o:Obj}{l l':Led}(ho:isIt o=true)(hne:∀p∈l,p.1≠I)(N:News h₀ L h (l'++[(I,o)]))(h1:∀p∈l',p.1∈l.map (·.1)∨isIt p.2=false):∀p∈l',p.1≠I:=by
 intro p hp e
 rcases h1 p hp with q|q
 ·obtain⟨r,hr,hr'⟩:=List.mem_map.mp q
  exact hne r hr (hr'.trans e)
 ·have a:=(N p (List.mem_append.mpr (.inl hp))).1
  have b:=(N (I,o) (List.mem_append.mpr (.inr (.head _)))).1
  rw[e] at a
  have:p.2=o:=Option.some.inj (a.symm.trans b)
  rw[this,ho] at q
  cases q
theorem iter_one {σ:Type}{I:Addr}{n:Nat}{P:Nat->Value->Prop}{St:Nat->Heap->Prop}{m₀:Str->Option Value}(led:σ->Led)(ps:σ->Nms)(R:Nat->σ->Prop)(c₀:σ)
  (W:Walks prog w A I [I] [I] n P St) (hSt:∀i h,St i h->∃o,h.get? I=some o/\isIt o=true) (hL:I≠env.locals) (hI:h₀.get? I=none) (hst:St 0 s.heap)
  (F:Fr h₀ env.locals s.heap m₀) (N:News h₀ env.locals s.heap (led c₀)) (hnw:∀p∈led c₀,p.1≠I) (hk:Has m₀ (ps c₀)) (hp:R 0 c₀)
  (turn:∀i v (c:σ) (u:Str->Option Value) h tk o,i<n->P i v->R i c->(∀p∈led c,p.1≠I)->isIt o=true->Fr h₀ env.locals h (fun y=>if y=x then some v else fm u (ps c) y)->News h₀ env.locals h (led c++[(I,o)])->
   wpAny (model prog w) A (execs body env) (Turn h₀ env.locals led ps (R (i+1)) c I o { s with heap:=h,toks:=tk } Q) E { s with heap:=h,toks:=tk })
  (done:∀c u h tk,R n c->Fr h₀ env.locals h (fm u (ps c))->News h₀ env.locals h (led c)->Q .next { s with heap:=h,toks:=tk }):
  LoopAtV prog w A h₀ env x body Q E (.ref I) s:=by
 refine for_c led ps R c₀ W (fun hm=>hL (List.mem_singleton.mp hm).symm) (fun b hb=>by rw[List.mem_singleton.mp hb];exact hI) hst F N (fun p hp hm=>hnw p hp (List.mem_singleton.mp hm)) hk hp ?_ done
 intro i v c u h tk own hi hP hR hnw' hown hin st F₁ N₁
 obtain⟨o,ho,hit⟩:=hSt _ _ st
 have hne:∀p∈led c,p.1≠I:=fun p hp e=>hnw' p hp (List.mem_singleton.mpr e)
 have hIo:=hown I (List.mem_singleton.mpr rfl) o ho
 have all:∀p∈own,p=(I,o):=fun p hp=>by
  obtain⟨a,b⟩:=hin p hp
  have a':=List.mem_singleton.mp a
  rw[a',ho] at b
  exact Prod.ext a' (Option.some.inj b).symm
 have N₂:News h₀ env.locals h (led c++[(I,o)]):=News.sub N₁ fun p hp=>by
  rcases List.mem_append.mp hp with q|q
  ·exact List.mem_append.mpr (.inl q)
  ·rw[List.mem_singleton.mp q];exact List.mem_append.mpr (.inr hIo)
 refine wpAny_mono (turn i v c u h tk o hi hP hR hne hit F₁ N₂) (fun f s₂ q=>?_) fun _ _ x=>x
 have fin:(∃c' m' h' tk',s₂={ s with heap:=h',toks:=tk' }/\Fr h₀ env.locals h' m'/\News h₀ env.locals h' (led c'++[(I,o)])/\(∀p∈led c',p.1∈(led c).map (·.1)∨isIt p.2=false)/\Has m' (ps c')/\R (i+1) c')->
   ∃c' m' h' tk',s₂={ s with heap:=h',toks:=tk' }/\Fr h₀ env.locals h' m'/\News h₀ env.locals h' (led c'++own)/\(∀p∈led c',p.1 ∉ [I])/\Has m' (ps c')/\R (i+1) c':=by
  intro w23q;(refine Uc.ex4 w23q fun c' m' h' tk'=>Uc.an6 fun e1q F' N' hn' hk' hR'=>?_;clear w23q;subst e1q)
  refine Uc.ei4 c' m' h' tk' ⟨rfl,F',News.sub N' fun p hp=>?_,fun p hp hm=>apart hit hne N' hn' p hp (List.mem_singleton.mp hm),hk',hR'⟩
  rcases List.mem_append.mp hp with q|q
  ·exact List.mem_append.mpr (.inl q)
  ·rw[all p q];exact List.mem_append.mpr (.inr (.head _))
 cases f with
 |ret v=>exact q
 |brk=>exact q
 |next=>exact fin q
 |cont=>exact fin q
theorem iter_range {σ:Type}{r:Addr}{a b c:Int}{t₀ u₀ v₀:Tok}{n:Nat}{m₀:Str->Option Value}(led:σ->Led)(ps:σ->Nms)(R:Nat->σ->Prop)(c₀:σ)(hh:A.handled=none)
  (hr:IsRange s.heap r a b c t₀ u₀ v₀) (hsmall:Builtin.Range.small a b c=true) (hn:Builtin.Range.rangeSize a b c=(n:Int)) 
  (F:Fr h₀ env.locals s.heap m₀) (N:News h₀ env.locals s.heap (led c₀)) (hk:Has m₀ (ps c₀)) (hp:R 0 c₀)
  (turn:∀i t (c':σ) (u:Str->Option Value) h tk I o,i<n->R i c'->(∀p∈led c',p.1≠I)->isIt o=true->Fr h₀ env.locals h (fun y=>if y=x then some (.int (a+(i:Int)*c) t) else fm u (ps c') y)->News h₀ env.locals h (led c'++[(I,o)])->
   ∀Z:Flow->Shared->Prop,Hid (Turn h₀ env.locals led ps (R (i+1)) c' I o { s with heap:=h,toks:=tk } Q) Z->wpAny (model prog w) A (execs body env) Z E { s with heap:=h,toks:=tk })
  (done:∀c u h tk,R n c->Fr h₀ env.locals h (fm u (ps c))->News h₀ env.locals h (led c)->Q .next { s with heap:=h,toks:=tk }):
  wpAny (model prog w) A (pyIter (.ref r)) (fun it s₂=>LoopAtV prog w A h₀ env x body Q E it s₂) E s:=by
 refine wpAny_pyIter_range hr hsmall ?_
 have W:Walks prog w A s.heap.objs.size [s.heap.objs.size] [s.heap.objs.size] n (fun i v=>i<n/\∃t,v=.int (a+i*c) t)
   (fun i h=>IsRangeIter h s.heap.objs.size (a+(i:Nat)*c) ((n:Int)-(i:Nat)) c):=(Walks.range hh _ a c n).bound
 refine iter_one led ps R c₀ W (fun i h st=>⟨_,st,rfl⟩) (fun e=>absurd F.ns.lt (e▸Nat.lt_irrefl _)) (next_is_new F) (by show IsRangeIter _ _ _ _ _;rw[hn];simpa using Heap.get?_push_size _ rfl) (F.push _) (fun p hp=>⟨Heap.get?_push_of_some _ (N p hp).1,(N p hp).2⟩)
  (fun p hp hI=>absurd (Heap.lt_size (N p hp).1) (hI▸Nat.lt_irrefl _)) hk hp ?_ ?_
 ·rintro i v c' u h tk o hi ⟨_,t,rfl⟩ hR hne hit F₁ N₁
  exact turn i t c' u h tk _ o hi hR hne hit F₁ N₁ _ fun _ _ q=>q
 ·exact fun c u h tk hR F N=>done c u h tk hR F N
theorem iter_to {σ:Type}{r:Addr}{b:Int}{t₀ u₀ v₀:Tok}{m₀:Str->Option Value}(n:Nat)(led:σ->Led)(ps:σ->Nms)(R:Nat->σ->Prop)(c₀:σ)(hh:A.handled=none)
  (hr:IsRange s.heap r 0 b 1 t₀ u₀ v₀) (hb:b=(n:Int)) (hn:n<=100000)
  (F:Fr h₀ env.locals s.heap m₀) (N:News h₀ env.locals s.heap (led c₀)) (hk:Has m₀ (ps c₀)) (hp:R 0 c₀)
  (turn:∀i t (c':σ) (u:Str->Option Value) h tk I o,i<n->R i c'->(∀p∈led c',p.1≠I)->isIt o=true->Fr h₀ env.locals h (fun y=>if y=x then some (.int (i:Int) t) else fm u (ps c') y)->News h₀ env.locals h (led c'++[(I,o)])->
   ∀Z:Flow->Shared->Prop,Hid (Turn h₀ env.locals led ps (R (i+1)) c' I o { s with heap:=h,toks:=tk } Q) Z->wpAny (model prog w) A (execs body env) Z E { s with heap:=h,toks:=tk })
  (done:∀c u h tk,R n c->Fr h₀ env.locals h (fm u (ps c))->News h₀ env.locals h (led c)->Q .next { s with heap:=h,toks:=tk }):
  wpAny (model prog w) A (pyIter (.ref r)) (fun it s₂=>LoopAtV prog w A h₀ env x body Q E it s₂) E s:=by
 refine iter_range (n:=n) led ps R c₀ hh hr (rsmall (by omega) (by omega) (by omega) (by omega) (by omega) (by omega)) (rsize1 hb) F N hk hp (fun i t c' u h tk I o hi hR hne hit F₁ N₁=>?_) done
 refine turn i t c' u h tk I o hi hR hne hit ?_ N₁
 have:(0:Int)+(i:Int)*1=(i:Int):=by omega
 rw[this] at F₁
 exact F₁
theorem iter_str {σ:Type}{y:Str}{t₀:Tok}{m₀:Str->Option Value}(led:σ->Led)(ps:σ->Nms)(R:Nat->σ->Prop)(c₀:σ)(hh:A.handled=none)
  (F:Fr h₀ env.locals s.heap m₀) (N:News h₀ env.locals s.heap (led c₀)) (hk:Has m₀ (ps c₀)) (hp:R 0 c₀)
  (turn:∀i k t (c':σ) (u:Str->Option Value) h tk I o,y.cps[i]? =some k->R i c'->(∀p∈led c',p.1≠I)->isIt o=true->Fr h₀ env.locals h (fun z=>if z=x then some (.str ⟨#[k]⟩ t) else fm u (ps c') z)->News h₀ env.locals h (led c'++[(I,o)])->
   ∀Z:Flow->Shared->Prop,Hid (Turn h₀ env.locals led ps (R (i+1)) c' I o { s with heap:=h,toks:=tk } Q) Z->wpAny (model prog w) A (execs body env) Z E { s with heap:=h,toks:=tk })
  (done:∀c u h tk,R y.cps.size c->Fr h₀ env.locals h (fm u (ps c))->News h₀ env.locals h (led c)->Q .next { s with heap:=h,toks:=tk }):
  wpAny (model prog w) A (pyIter (.str y t₀)) (fun it s₂=>LoopAtV prog w A h₀ env x body Q E it s₂) E s:=by
 have key:∀ty o,Walks prog w A s.heap.objs.size [s.heap.objs.size] [s.heap.objs.size] y.cps.size (SignAt y) (fun i h=>h.IsStrIter s.heap.objs.size ty y t₀ i)->(s.heap.push o).IsStrIter s.heap.objs.size ty y t₀ 0->
   LoopAtV prog w A h₀ env x body Q E (.ref s.heap.objs.size) { s with heap:=s.heap.push o }:=by
  intro ty o W st
  refine iter_one led ps R c₀ W (fun i h st=>let ⟨o,h1,_,h2⟩:=st;⟨o,h1,by unfold isIt;rw[h2]⟩) (fun e=>absurd F.ns.lt (e▸Nat.lt_irrefl _)) (next_is_new F) st (F.push _) (fun p hp=>⟨Heap.get?_push_of_some _ (N p hp).1,(N p hp).2⟩)
   (fun p hp hI=>absurd (Heap.lt_size (N p hp).1) (hI▸Nat.lt_irrefl _)) hk hp ?_ ?_
  ·rintro i v c' u h tk o' hi ⟨k,t,hk',rfl⟩ hR hne hit F₁ N₁
   exact turn i k t c' u h tk _ o' hk' hR hne hit F₁ N₁ _ fun _ _ q=>q
  ·exact fun c u h tk hR F N=>done c u h tk hR F N
 cases ha:y.cps.all (· <128)
 ·exact wpAny_pyIter_wide ha (key _ _ (Walks.strWide hh _ y t₀) ⟨_,Heap.get?_push_size _ rfl,rfl,rfl⟩)
 ·exact wpAny_pyIter_ascii ha (key _ _ (Walks.strAscii hh _ y t₀) ⟨_,Heap.get?_push_size _ rfl,rfl,rfl⟩)
theorem iter_listL {σ:Type}{l:Addr}{nn:Nat}{vs:List Value}{m₀:Str->Option Value}(led:σ->Led)(ps:σ->Nms)(R:Nat->σ->Prop)(c₀:σ)(hh:A.handled=none)(hl:∀c,(l,listOf vs.toArray nn)∈led c)
  (F:Fr h₀ env.locals s.heap m₀) (N:News h₀ env.locals s.heap (led c₀)) (hk:Has m₀ (ps c₀)) (hp:R 0 c₀)
  (turn:∀i v (c':σ) (u:Str->Option Value) h tk I o,vs[i]? =some v->R i c'->(∀p∈led c',p.1≠I)->isIt o=true->Fr h₀ env.locals h (fun z=>if z=x then some v else fm u (ps c') z)->News h₀ env.locals h (led c'++[(I,o)])->
   ∀Z:Flow->Shared->Prop,Hid (Turn h₀ env.locals led ps (R (i+1)) c' I o { s with heap:=h,toks:=tk } Q) Z->wpAny (model prog w) A (execs body env) Z E { s with heap:=h,toks:=tk })
  (done:∀c u h tk,R vs.length c->Fr h₀ env.locals h (fm u (ps c))->News h₀ env.locals h (led c)->Q .next { s with heap:=h,toks:=tk }):
  wpAny (model prog w) A (pyIter (.ref l)) (fun it s₂=>LoopAtV prog w A h₀ env x body Q E it s₂) E s:=by
 have z:=N _ (hl c₀)
 have hls:s.heap.IsList l vs.toArray:=⟨_,z.1,rfl,nn,rfl⟩
 have hlt:l<s.heap.objs.size:=Heap.lt_size z.1
 have hne:l≠s.heap.objs.size:=Nat.ne_of_lt hlt
 refine wpAny_pyIter_list hls ?_
 have W:=Walks.list (prog:=prog) (w:=w) hh s.heap.objs.size l hne vs.toArray
 refine for_c led ps R c₀ W ?_ (fun b hb=>by rw[List.mem_singleton.mp hb];exact next_is_new F) ⟨⟨_,Heap.get?_push_size _ rfl,rfl,rfl⟩,hls.at fun o e=>Heap.get?_push_of_some _ e⟩ (F.push _) (fun p hp=>⟨Heap.get?_push_of_some _ (N p hp).1,(N p hp).2⟩)
  (fun p hp hI=>absurd (Heap.lt_size (N p hp).1) ((List.mem_singleton.mp hI)▸Nat.lt_irrefl _)) hk hp ?_ ?_
 ·intro hm
  rcases List.mem_cons.mp hm with e|hm
  ·exact absurd F.ns.lt (e▸Nat.lt_irrefl _)
  ·exact z.2.1 (List.mem_singleton.mp hm).symm
 ·intro i v c u h tk own hi hP hR hnw' hown hin st F₁ N₁
  (refine Uc.ah2 st fun w28q _=>?_;clear st);(refine Uc.ex1 w28q fun o=>Uc.an3 fun ho _ hd=>?_;clear w28q)
  have hit:isIt o=true:=by unfold isIt;rw[hd]
  have hne':∀p∈led c,p.1≠s.heap.objs.size:=fun p hp e=>hnw' p hp (List.mem_singleton.mpr e)
  have hIo:=hown _ (List.mem_singleton.mpr rfl) o ho
  have all:∀p∈own,p=(s.heap.objs.size,o)∨p=(l,listOf vs.toArray nn):=fun p hp=>by
   obtain⟨a,b⟩:=hin p hp
   rcases List.mem_cons.mp a with a'|a'
   ·rw[a',ho] at b
    exact .inl (Prod.ext a' (Option.some.inj b).symm)
   ·have a'':=List.mem_singleton.mp a'
    have q:=(N₁ _ (List.mem_append.mpr (.inl (hl c)))).1
    rw[a''] at b
    exact .inr (Prod.ext a'' (Option.some.inj (b.symm.trans q)))
  have N₂:News h₀ env.locals h (led c++[(s.heap.objs.size,o)]):=News.sub N₁ fun p hp=>by
   rcases List.mem_append.mp hp with q|q
   ·exact List.mem_append.mpr (.inl q)
   ·rw[List.mem_singleton.mp q];exact List.mem_append.mpr (.inr hIo)
  refine wpAny_mono (turn i v c u h tk _ o (by simpa using hP) hR hne' hit F₁ N₂ _ fun _ _ q=>q) (fun f s₂ q=>?_) fun _ _ x=>x
  have fin:(∃c' m' h' tk',s₂={ s with heap:=h',toks:=tk' }/\Fr h₀ env.locals h' m'/\News h₀ env.locals h' (led c'++[(s.heap.objs.size,o)])/\(∀p∈led c',p.1∈(led c).map (·.1)∨isIt p.2=false)/\Has m' (ps c')/\R (i+1) c')->
    ∃c' m' h' tk',s₂={ s with heap:=h',toks:=tk' }/\Fr h₀ env.locals h' m'/\News h₀ env.locals h' (led c'++own)/\(∀p∈led c',p.1 ∉ [s.heap.objs.size])/\Has m' (ps c')/\R (i+1) c':=by
   intro w29q;(refine Uc.ex4 w29q fun c' m' h' tk'=>Uc.an6 fun e1q F' N' hn' hk' hR'=>?_;clear w29q;subst e1q)
   refine Uc.ei4 c' m' h' tk' ⟨rfl,F',News.sub N' fun p hp=>?_,fun p hp hm=>apart hit hne' N' hn' p hp (List.mem_singleton.mp hm),hk',hR'⟩
   rcases List.mem_append.mp hp with q|q
   ·exact List.mem_append.mpr (.inl q)
   ·rcases all p q with e|e
    ·rw[e];exact List.mem_append.mpr (.inr (.head _))
    ·rw[e];exact List.mem_append.mpr (.inl (hl c'))
  cases f with
  |ret v=>exact q
  |brk=>exact q
  |next=>exact fin q
  |cont=>exact fin q
 ·exact fun c u h tk hR F N=>done c u h tk (by simpa using hR) F N
noncomputable def GotF (h₀:Heap)(L:Addr){σ:Type}(led:σ->Led)(ps:σ->Nms)(P:σ->Prop)(s:Shared)(Q:Flow->Shared->Prop)(f:Flow)(s':Shared):Prop:=match f with
 | .next=>Got h₀ L led ps P s s'
 |f=>Q f s'
theorem GotF.mk {h₀ h':Heap}{L:Addr}{σ:Type}{led:σ->Led}{ps:σ->Nms}{P:σ->Prop}{s:Shared}{Q:Flow->Shared->Prop}{m':Str->Option Value}{news':Led}{tk':Nat}(c':σ)
  (F:Fr h₀ L h' m') (N:News h₀ L h' news') (hs:∀p∈led c',p∈news') (hk:Has m' (ps c')) (hp:P c'):GotF h₀ L led ps P s Q .next { s with heap:=h',toks:=tk' }:=Uc.ei4 c' m' h' tk' ⟨rfl,F,News.sub N hs,hk,hp⟩
theorem GotF.ret {h₀:Heap}{L:Addr}{σ:Type}{led:σ->Led}{ps:σ->Nms}{P:σ->Prop}{s s':Shared}{Q:Flow->Shared->Prop}{v:Value}(h:Q (.ret v) s'):GotF h₀ L led ps P s Q (.ret v) s':=h
theorem execs_join {σ:Type}{L:Addr}{st:Stmt}{rest:List Stmt}{m₀:Str->Option Value}(F₀:Fr h₀ L s.heap m₀)(led:σ->Led)(ps:σ->Nms)(P:σ->Prop)(h1:∀Z:Flow->Shared->Prop,Hid (GotF h₀ L led ps P s Q) Z->wpAny (model prog w) A (exec st env) Z E s)
  (h2:∀c u h tk,P c->Fr h₀ L h (fm u (ps c))->News h₀ L h (led c)->wpAny (model prog w) A (execs rest env) Q E { s with heap:=h,toks:=tk }):wpAny (model prog w) A (execs (st::rest) env) Q E s:=by
 refine wpAny_execs_cons (wpAny_mono (h1 _ fun _ _ q=>q) (fun f s' q=>?_) fun _ _ x=>x)
 cases f with
 |next=>
  (refine Uc.ex4 q fun c' m' h' tk'=>Uc.an5 fun e1q F' N' hk' hz=>?_;clear q;subst e1q)
  exact h2 c' m' h' tk' hz (by rw[fm_eq hk'];exact F') N'
 |ret v=>exact q
 |brk=>exact q
 |cont=>exact q
end
theorem intsAre_of (f:Nat->Int):∀(vs:List Value) (k:Nat),(∀i v,vs[i]? =some v->∃t,v=Value.int (f (k+i)) t)->IntsAre vs ((List.range vs.length).map fun i=>f (k+i))
 | [],_,_=>.nil
 |v::vs,k,h=>by
  obtain⟨t,rfl⟩:=h 0 v rfl
  have:=intsAre_of f vs (k+1) fun i v hi=>by
   have:=h (i+1) v hi
   rwa [show k+(i+1)=k+1+i by omega] at this
  rw[List.length_cons,List.range_succ_eq_map,List.map_cons,List.map_map]
  refine .cons _ _ ?_
  have e:((fun i=>f (k+i))∘Nat.succ)=fun i=>f (k+1+i):=by funext i;show f (k+(i+1))=_;rw[show k+(i+1)=k+1+i by omega]
  rw[e]
  exact this
section
variable {prog:Program}{w:World}{A:Around}{E:Value->Shared->Prop}{s:Shared}{h₀:Heap}{L:Addr}{m:Str->Option Value}
theorem list_range_K {r:Addr}{a b c:Int}{t u v:Tok}{n:Nat}{news:Led}{Q:Value->Shared->Prop}(hh:A.handled=none)(F:Fr h₀ L s.heap m)(N:News h₀ L s.heap news)
  (hr:IsRange s.heap r a b c t u v) (hsmall:Builtin.Range.small a b c=true) (hn:Builtin.Range.rangeSize a b c=(n:Int)) (hlen:n<=2^24)
  (hQ:∀h' tk (vs:List Value) cnt l,Fr h₀ L h' m->News h₀ L h' ((l,listOf vs.toArray cnt)::news)->(∀p∈news,p.1<l)->vs.length=n->IntsAre vs ((List.range n).map fun(i:Nat)=>a+(i:Int)*c)->Q (.ref l) { s with heap:=h',toks:=tk }):
  wpAny (model prog w) A (call (.type "list") [.ref r]) Q E s:=by
 refine call_list_range hh hr hsmall hn hlen fun h' tk acc c' hk hS hacc=>?_
 have hlen:acc.toList.length=n:=by simpa using hacc.1
 refine hQ h' tk acc.toList c' _ (F.keeps hk) (fun p hp=>?_) (fun p hp=>Heap.lt_size (N p hp).1) hlen ?_
 ·rcases List.mem_cons.mp hp with rfl|hp
  ·refine⟨by simpa using hS,fun e=>absurd F.ns.lt (e▸Nat.lt_irrefl _),?_⟩
   cases q:h₀.get? s.heap.objs.size with
   |none=>rfl
   |some o'=>exact absurd (Heap.lt_size (F.keep _ _ q)) (Nat.lt_irrefl _)
  ·exact⟨hk _ _ (N p hp).1,(N p hp).2⟩
 ·have:=intsAre_of (fun i=>a+(i:Int)*c) acc.toList 0 fun i v hv=>by
   have hi:i<n:=by
    rw[<-hlen];exact(List.getElem?_eq_some_iff.mp hv).1
   rw[Nat.zero_add]
   exact hacc.2 i v (by simpa using hv)
  rw[hlen] at this
  simpa using this
theorem setL_eq (v:Value):∀(xs:List Value) (k:Nat),k<xs.length->ki_setL xs k v=some (xs.set k v)
 | [],k,h=>absurd h (Nat.not_lt_zero _)
 |x::xs,0,_=>rfl
 |x::xs,k+1,h=>by
  rw[ki_setL,setL_eq v xs k (Nat.lt_of_succ_lt_succ h)]
  rfl
theorem set_listH {D:Addr}{n j:Nat}{t:Tok}{v:Value}{vs:List Value}{rest:Led}{Q:Unit->Shared->Prop}(F:Fr h₀ L s.heap m)(N:News h₀ L s.heap ((D,listOf vs.toArray n)::rest))(hj:j<vs.length)(hj':j<100000000)
  (hne:∀p∈rest,p.1≠D) (h:∀h',Fr h₀ L h' m->News h₀ L h' ((D,listOf (vs.set j v).toArray n)::rest)->Q () { s with heap:=h' }):wpAny (model prog w) A (setItem (.ref D) (.int (j:Int) t) v) Q E s:=
 ki_set (its:=vs.toArray) F N (by omega) (by omega) (by rw[Int.toNat_natCast];exact setL_eq v vs j hj) (.head hne) h
theorem intsAre_len {vs:List Value}{ns:List Int}(h:IntsAre vs ns):vs.length=ns.length:=by
 induction h with
 |nil=>rfl
 |cons n t h ih=>exact congrArg Nat.succ ih
theorem intsAre_set (x:Int)(t:Tok){vs:List Value}{ns:List Int}(h:IntsAre vs ns):∀j:Nat,IntsAre (vs.set j (.int x t)) (ns.set j x):=by
 induction h with
 |nil=>exact fun j=>.nil
 |cons n t' h ih=>
  intro j
  cases j with
  |zero=>exact .cons x t h
  |succ j=>exact .cons n t' (ih j)
theorem mm (a b:Int):(if b<a then b else a)=min a b:=by rw[Int.min_def];split<;>split<;>omega
end
end Uc
namespace Uc
noncomputable def stP (M:Model)(A:Around)(rest:List Stmt)(env:Env)(Q:Flow->Shared->Prop)(E:Value->Shared->Prop):Flow->Shared->Prop:=fun f s'=>match f with| .next=>wpAny M A (execs rest env) Q E s'|f=>Q f s'
theorem execs_cons_h {M:Model}{A:Around}{env:Env}{st:Stmt}{rest:List Stmt}{Q:Flow->Shared->Prop}{E:Value->Shared->Prop}{s:Shared}
  (h:∀Z:Flow->Shared->Prop,Hid (stP M A rest env Q E) Z->wpAny M A (exec st env) Z E s):wpAny M A (execs (st::rest) env) Q E s:=
 wpAny_execs_cons (h _ fun _ _ q=>q)
section
variable {M:Model}{A:Around}{env:Env}{rest:List Stmt}{Q Z:Flow->Shared->Prop}{E:Value->Shared->Prop}{s:Shared}
theorem Hid.next (h:Hid (stP M A rest env Q E) Z)(q:wpAny M A (execs rest env) Q E s):Z .next s:=h _ _ q
theorem Hid.ret {v:Value}(h:Hid (stP M A rest env Q E) Z)(q:Q (.ret v) s):Z (.ret v) s:=h _ _ q
theorem Hid.cont (h:Hid (stP M A rest env Q E) Z)(q:Q .cont s):Z .cont s:=h _ _ q
end
theorem letAX {M:Model}{A:Around}{st:Stmt}{env:Env}{Q:Flow->Shared->Prop}{E:Value->Shared->Prop}{s:Shared}(h:let AA:=A;let EE:=env;wpAny M AA (exec st EE) Q E s):wpAny M A (exec st env) Q E s:=h
theorem letF {h₀ h:Heap}{L:Addr}{u:Str->Option Value}{P:Prop}{l:Nms}(F:Fr h₀ L h (fm u l))(k:let NM:=l;Fr h₀ L h (fm u NM)->P):P:=k F
theorem letAE {M:Model}{A:Around}{body:List Stmt}{env:Env}{Q:Flow->Shared->Prop}{E:Value->Shared->Prop}{s:Shared}(h:let AA:=A;let EE:=env;wpAny M AA (execs body EE) Q E s):wpAny M A (execs body env) Q E s:=h
theorem room3 {n a k b l:Nat}(h:n+a<l)(e:k+b<=a):n+k+b<l:=by omega
theorem room2 {n a b l:Nat}(h:n+a<l)(e:b<=a):n+b<l:=by omega
end Uc
end
local macro_rules | `(tactic|walk_at "N")=> `(tactic|with_reducible first|refine Uc.Hid.next ‹_› ?_|refine Uc.Hid.ret ‹_› ?_|refine Uc.Hid.brk ‹_› ?_|refine Uc.Hid.cont ‹_› ?_)
local macro_rules | `(tactic|walk_at "G")=> `(tactic|with_reducible refine Uc.Hid.go ‹_› ?_)
local macro_rules | `(tactic|walk_at "D")=> `(tactic|try dsimp only)
local macro_rules | `(tactic|walk_at "T")=> `(tactic|first|walk1|walk_at "N"|(walk_at "G";walk_at "D")|(dsimp only;walk1)|(leave1;walk_at "D"))
local macro_rules | `(tactic|walk_at "J")=> `(tactic|with_reducible refine fun _ (_:Uc.Hid _ _)=>?_)
local macro_rules | `(tactic|walk_at "P")=> `(tactic|first|walk_at "J"|(with_reducible refine fun _ _ (_:Uc.Hid _ _) (_:Uc.Hid _ _)=>?_)|(k_unfold;walk_at "D"))
local macro_rules | `(tactic|walk_at "F")=> `(tactic|((fail_if_success with_reducible refine Uc.isW ?_);(fail_if_success with_reducible refine Uc.isI ?_)))
local macro_rules | `(tactic|walk_at "I")=> `(tactic|first|exact Uc.ledgR|exact Uc.ledgD Uc.ledgR|((with_reducible repeat(first|exact Uc.ledgR|refine Uc.ledgK ?_|refine Uc.ledgD ?_));done)|((repeat(first|exact Uc.allN|(refine Uc.allB ?_ ?_;focus k_mem)));first|done|(intro _ h;with_reducible repeat(first|exact h|refine List.mem_cons_of_mem _ ?_))))
local macro_rules | `(tactic|walk_at "r")=> `(tactic|first|assumption|exact Uc.room3 (by assumption) (by decide)|exact Uc.room2 (by assumption) (by decide)|ktr_room)
local macro_rules | `(tactic|walk_at "u")=> `(tactic|first|assumption|exact Uc.room3 (by assumption) (by decide)|exact Uc.room2 (by assumption) (by decide)|ktr_units)
local macro_rules | `(tactic|walk_at "W")=> `(tactic|repeat' (first|walk_at "P"|(walk_at "F";walk_at "T")))
local macro_rules | `(tactic|walk_at "H")=> `(tactic|((try(walk_at "J"));(try(first|walk_at "N"|(walk_at "G";walk_at "D")))))
section
namespace Uc
noncomputable def bump (cs:List Int)(b:Nat):List Int:=let l:=cs++List.replicate (b+1-cs.length) 0;l.set b (l.getD b 0+1)
structure WS where
 cs:List Int
 b:Nat
 n:Nat
 nt:Nat
noncomputable def wsGo:List Nat->WS->WS
 | [],s=>s
 |c::r,s=>if c=32 then wsGo r ⟨s.cs,s.b+1,s.n+1,s.nt⟩ else if c=9 then wsGo r ⟨bump s.cs s.b,0,s.n+1,s.nt+1⟩ else s
theorem wsGo_cons (c:Nat)(r:List Nat)(s:WS):wsGo (c::r) s=if c=32 then wsGo r ⟨s.cs,s.b+1,s.n+1,s.nt⟩ else if c=9 then wsGo r ⟨bump s.cs s.b,0,s.n+1,s.nt+1⟩ else s:=rfl
noncomputable def wsOf (x:Str):WS:=wsGo x.cps.toList ⟨[],0,0,0⟩
end Uc
namespace Uc
theorem drop_some {x:Str}{i k:Nat}(h:x.cps[i]? =some k):x.cps.toList.drop i=k::x.cps.toList.drop (i+1):=by
 obtain⟨hi,e⟩:=Array.getElem?_eq_some_iff.mp h
 have hi':i<x.cps.toList.length:=by simpa using hi
 rw[List.drop_eq_getElem_cons hi']
 congr 1
theorem chr_eq (k c:Nat):((⟨#[k]⟩:Str)==⟨#[c]⟩)=(k==c):=by
 by_cases h:k=c
 ·subst h;simp
 ·have:(k==c)=false:=by simpa using h
  rw[this,beq_eq_false_iff_ne]
  intro e
  injection e with e
  simp at e
  exact h e
theorem sp_is:ofString " "=⟨#[32]⟩:=by rfl
theorem tab_is:ofString "\t"=⟨#[9]⟩:=by rfl
end Uc
end
section
namespace Uc
theorem allLt_ne2 {d e:Addr}{l:List (Addr×Obj)}(h:AllLt d l)(k:@LE.le Nat _ d e):∀q∈l,q.1≠e:=fun q hq=>Nat.ne_of_lt (Nat.lt_of_lt_of_le (allLt_all h q hq) k)
theorem nameLt {l:Addr}{news:List (Addr×Obj)}(h:∀p∈news,p.1<l):∃k,k=l/\∀p∈news,p.1≠k:=⟨l,rfl,fun p hp=>Nat.ne_of_lt (h p hp)⟩
theorem News.drop1 {h₀ h:Heap}{L:Addr}{a:Addr×Obj}{r:List (Addr×Obj)}(N:News h₀ L h (a::r)):News h₀ L h r:=fun p hp=>N p (.tail _ hp)
theorem nameO {o:Obj}{d d':Data}(h:o.data=d)(e:d=d'):∃k,k=o/\k.data=d':=⟨o,rfl,h.trans e⟩
section
variable {prog:Program}{w:World}{A:Around}{E:Value->Shared->Prop}{s:Shared}{h₀:Heap}{L:Addr}{m:Str->Option Value}
theorem list_strK {x:Str}{t:Tok}{news:Led}{Q:Value->Shared->Prop}(hh:A.handled=none)(F:Fr h₀ L s.heap m)(N:News h₀ L s.heap news)(hsz:x.length<=100000)
  (hQ:∀h' tk (vs:List Value) cnt l,Fr h₀ L h' m->News h₀ L h' ((l,listOf vs.toArray cnt)::news)->(∀p∈news,p.1<l)->StrsAre vs (signs x)->Q (.ref l) { s with heap:=h',toks:=tk }):
  wpAny (model prog w) A (call (.type "list") [.str x t]) Q E s:=by
 refine call_list_str hh x t (hn:=Nat.le_trans hsz (by decide)) fun h' tk acc' c' hk hS' hacc=>?_
 have hC:CarriedAll acc'.toList ((signs x).map .str):=carriedAll_of_get _ _ (by simp[hacc.1,signs]) fun j v hv=>by
  obtain⟨c,u,hc,rfl⟩:=hacc.2 j v (by simpa using hv)
  exact⟨.str ⟨#[c]⟩,by simp[signs,hc],.str _ _⟩
 refine hQ h' tk acc'.toList c' _ (F.keeps hk) (fun p hp=>?_) (fun p hp=>Heap.lt_size (N p hp).1) (StrsAre.ofCarried hC)
 rcases List.mem_cons.mp hp with rfl|hp
 ·refine⟨by simpa using hS',fun e=>absurd F.ns.lt (e▸Nat.lt_irrefl _),?_⟩
  cases q:h₀.get? s.heap.objs.size with
  |none=>rfl
  |some o'=>exact absurd (Heap.lt_size (F.keep _ _ q)) (Nat.lt_irrefl _)
 ·exact⟨hk _ _ (N p hp).1,(N p hp).2⟩
theorem ne_nil_ff {l b:Addr}{n n':Nat}{news:Led}{Q:Value->Shared->Prop}(N:News h₀ L s.heap news)(hl:(l,listOf #[] n)∈news)(hb:(b,listOf #[] n')∈news)(hu:A.units<cLine)(h:Q (.bool false) s):wpAny (model prog w) A (compareOp .NotEq (.ref l) (.ref b)) Q E s:=
 cmp_ofNotEq (PySem.SeqAt.RcNeAt.lists (e:=fun _=>true) ⟨_,(N _ hl).1,rfl,n,rfl⟩ ⟨_,(N _ hb).1,rfl,n',rfl⟩ rfl hu (fun j h1 _=>absurd h1 (Nat.not_lt_zero _)) prog w E Q h)
theorem ne_nil_tt {l b:Addr}{v:Value}{vs:List Value}{n n':Nat}{news:Led}{Q:Value->Shared->Prop}(N:News h₀ L s.heap news)(hl:(l,listOf (v::vs).toArray n)∈news)(hb:(b,listOf #[] n')∈news)(hu:A.units<cLine)(h:Q (.bool true) s):wpAny (model prog w) A (compareOp .NotEq (.ref l) (.ref b)) Q E s:=
 cmp_ofNotEq (PySem.SeqAt.RcNeAt.lists_lengths ⟨_,(N _ hl).1,rfl,n,rfl⟩ ⟨_,(N _ hb).1,rfl,n',rfl⟩ (by simp) hu prog w E Q h)
end
end Uc
end
local macro_rules | `(tactic|walk_at "execs cons")=> `(tactic|(refine Uc.execs_cons_h ?_;intro _ _))
local macro_rules | `(tactic|walk_at "execs cons")=> `(tactic|(dsimp only;k_gentoks))
local macro_rules | `(tactic|walk_at "execs nil")=> `(tactic|(dsimp only;k_gentoks))
local macro_rules | `(tactic|k_all)=> `(tactic|first|with_reducible assumption|exact Uc.allLt_ne2 ‹_› (by omega))
section
namespace Uc
open PySem.Calls
/-! pure expressions over a frame's names,in one step -/
set_option genInjectivity false in
set_option genSizeOf false in
inductive PV where
 |int (i:Int)|str (x:Str)|bool (b:Bool)|none|val (v:Value)
noncomputable def PV.den (t:Tok):PV->Value
 | .int i=>.int i t
 | .str x=>.str x t
 | .bool b=>.bool b
 | .none=>.none
 | .val v=>v
noncomputable def toPV:Value->PV
 | .int i _=>.int i
 | .str x _=>.str x
 | .bool b=>.bool b
 | .none=>.none
 |v=>.val v
theorem toPV_den (v:Value):∃t,(toPV v).den t=v:=by
 cases v<;>first|exact⟨0,rfl⟩|exact⟨_,rfl⟩
set_option genInjectivity false in
set_option genSizeOf false in
inductive Rs where|bad|ok (v:PV)|cond (c:Prop) (v:PV)
set_option genInjectivity false in
set_option genSizeOf false in
inductive Bs where|bad|ok (p:Prop)|cond (c p:Prop)
set_option genInjectivity false in
set_option genSizeOf false in
inductive Hs where|bad|ok (h:Option Int)|cond (c:Prop) (h:Option Int)
noncomputable def Rs.holds (k:PV->Prop):Rs->Prop
 | .bad=>False
 | .ok v=>k v
 | .cond c v=>c/\k v
noncomputable def Bs.holds (k:Prop->Prop):Bs->Prop
 | .bad=>False
 | .ok v=>k v
 | .cond c v=>c/\k v
noncomputable def Hs.holds (k:Option Int->Prop):Hs->Prop
 | .bad=>False
 | .ok v=>k v
 | .cond c v=>c/\k v
theorem Rs.mono {k k':PV->Prop}(h:∀v,k v->k' v):∀{r:Rs},r.holds k->r.holds k'
 | .ok _,q=>h _ q
 | .cond _ _,q=>⟨q.1,h _ q.2⟩
theorem Bs.mono {k k':Prop->Prop}(h:∀v,k v->k' v):∀{r:Bs},r.holds k->r.holds k'
 | .ok _,q=>h _ q
 | .cond _ _,q=>⟨q.1,h _ q.2⟩
theorem Hs.mono {k k':Option Int->Prop}(h:∀v,k v->k' v):∀{r:Hs},r.holds k->r.holds k'
 | .ok _,q=>h _ q
 | .cond _ _,q=>⟨q.1,h _ q.2⟩
noncomputable def Rs.and (c:Prop):Rs->Rs
 | .bad=>.bad
 | .ok v=>.cond c v
 | .cond d v=>.cond (c/\d) v
noncomputable def Bs.and (c:Prop):Bs->Bs
 | .bad=>.bad
 | .ok v=>.cond c v
 | .cond d v=>.cond (c/\d) v
noncomputable def Hs.and (c:Prop):Hs->Hs
 | .bad=>.bad
 | .ok v=>.cond c v
 | .cond d v=>.cond (c/\d) v
theorem Hs.and_h {c:Prop}{k:Option Int->Prop}:∀{r:Hs},(r.and c).holds k->c/\r.holds k
 | .ok _,q=>q
 | .cond _ _,q=>⟨q.1.1,q.1.2,q.2⟩
theorem Rs.and_h {c:Prop}{k:PV->Prop}:∀{r:Rs},(r.and c).holds k->c/\r.holds k
 | .ok _,q=>q
 | .cond _ _,q=>⟨q.1.1,q.1.2,q.2⟩
theorem Bs.and_h {c:Prop}{k:Prop->Prop}:∀{r:Bs},(r.and c).holds k->c/\r.holds k
 | .ok _,q=>q
 | .cond _ _,q=>⟨q.1.1,q.1.2,q.2⟩
noncomputable def bin2 (f:PV->PV->Rs):Rs->Rs->Rs
 | .ok a,.ok b=>f a b
 | .ok a,.cond c b=>(f a b).and c
 | .cond c a,.ok b=>(f a b).and c
 | .cond c a,.cond d b=>(f a b).and (c/\d)
 |_,_=>.bad
noncomputable def bin2B (f:PV->PV->Bs):Rs->Rs->Bs
 | .ok a,.ok b=>f a b
 | .ok a,.cond c b=>(f a b).and c
 | .cond c a,.ok b=>(f a b).and c
 | .cond c a,.cond d b=>(f a b).and (c/\d)
 |_,_=>.bad
theorem bin2_h {f:PV->PV->Rs}{k:PV->Prop}{a b:Rs}(q:(bin2 f a b).holds k):a.holds fun x=>b.holds fun y=>(f x y).holds k:=by
 cases a<;>cases b<;>first|exact q.elim|skip
 ·exact q
 ·exact Rs.and_h q
 ·exact Rs.and_h (r:=f _ _) q
 ·exact⟨(Rs.and_h q).1.1,(Rs.and_h q).1.2,(Rs.and_h q).2⟩
theorem bin2B_h {f:PV->PV->Bs}{k:Prop->Prop}{a b:Rs}(q:(bin2B f a b).holds k):a.holds fun x=>b.holds fun y=>(f x y).holds k:=by
 cases a<;>cases b<;>first|exact q.elim|skip
 ·exact q
 ·exact Bs.and_h q
 ·exact Bs.and_h (r:=f _ _) q
 ·exact⟨(Bs.and_h q).1.1,(Bs.and_h q).1.2,(Bs.and_h q).2⟩
noncomputable def pBin (op:Operator):PV->PV->Rs
 | .int a,.int b=>(match op with
  | .Add=>.ok (.int (a+b))
  | .Sub=>.ok (.int (a-b))
  | .Mult=>.cond (-1000000000<=a/\a<=1000000000) (.int (a*b))
  | .FloorDiv=>.cond (1<=b/\b<=1000000000) (.int (a.fdiv b))
  | .Mod=>.cond (1<=b/\b<=1000000000) (.int (a.fmod b))
  |_=>.bad)
 | .str x,.str y=>(match op with
  | .Add=>.cond (x.length+y.length<=16777216) (.str (x++y))
  |_=>.bad)
 | .str x,.int i=>(match op with
  | .Mult=>.cond (x.length<=16/\0<=i/\i<=1048576) (.str (Txt.mul x i))
  |_=>.bad)
 |_,_=>.bad
noncomputable def pCmp (op:CmpOp):PV->PV->Bs
 | .int a,.int b=>(match op with
  | .Eq=>.ok (a=b)
  | .NotEq=>.ok (¬ a=b)
  | .Lt=>.ok (a<b)
  | .LtE=>.ok (a<=b)
  | .Gt=>.ok (b<a)
  | .GtE=>.ok (b<=a)
  |_=>.bad)
 | .str x,.str y=>(match op with
  | .Eq=>.ok (x=y)
  | .NotEq=>.ok (¬ x=y)
  | .In=>.ok ((Builtin.Str.occurrences y x 0 y.length 1).isEmpty=false)
  |_=>.bad)
 |_,_=>.bad
noncomputable def pTru:PV->Bs
 | .int a=>.ok (¬ a=0)
 | .str x=>.cond (x.length<=16777216) (0<x.length)
 | .bool b=>.ok (b=true)
 | .none=>.ok False
 |_=>.bad
noncomputable def truB:Rs->Bs
 | .bad=>.bad
 | .ok v=>pTru v
 | .cond c v=>(pTru v).and c
noncomputable def notB:Bs->Bs
 | .bad=>.bad
 | .ok p=>.ok (¬ p)
 | .cond c p=>.cond c (¬ p)
noncomputable def andB:Bs->Bs->Bs
 | .ok p,.ok q=>.ok (p/\q)
 | .ok p,.cond c q=>.cond (p->c) (p/\q)
 | .cond c p,.ok q=>.cond c (p/\q)
 | .cond c p,.cond d q=>.cond (c/\(p->d)) (p/\q)
 |_,_=>.bad
noncomputable def orB:Bs->Bs->Bs
 | .ok p,.ok q=>.ok (p∨q)
 | .ok p,.cond c q=>.cond (¬ p->c) (p∨q)
 | .cond c p,.ok q=>.cond c (p∨q)
 | .cond c p,.cond d q=>.cond (c/\(¬ p->d)) (p∨q)
 |_,_=>.bad
theorem truB_h {k:Prop->Prop}:∀{a:Rs},(truB a).holds k->a.holds fun x=>(pTru x).holds k
 | .ok _,q=>q
 | .cond _ _,q=>Bs.and_h q
theorem notB_h {k:Prop->Prop}:∀{a:Bs},(notB a).holds k->a.holds fun x=>k (¬ x)
 | .ok _,q=>q
 | .cond _ _,q=>q
theorem andB_h {k:Prop->Prop}{a b:Bs}(q:(andB a b).holds k):a.holds fun p=>(p->b.holds fun q=>k (p/\q))/\∃q,k (p/\q):=by
 cases a<;>cases b<;>first|exact q.elim|skip
 ·exact⟨fun _=>q,_,q⟩
 ·exact⟨fun h=>⟨q.1 h,q.2⟩,_,q.2⟩
 ·exact⟨q.1,fun _=>q.2,_,q.2⟩
 ·exact⟨q.1.1,fun h=>⟨q.1.2 h,q.2⟩,_,q.2⟩
theorem orB_h {k:Prop->Prop}{a b:Bs}(q:(orB a b).holds k):a.holds fun p=>(¬ p->b.holds fun q=>k (p∨q))/\∃q,k (p∨q):=by
 cases a<;>cases b<;>first|exact q.elim|skip
 ·exact⟨fun _=>q,_,q⟩
 ·exact⟨fun h=>⟨q.1 h,q.2⟩,_,q.2⟩
 ·exact⟨q.1,fun _=>q.2,_,q.2⟩
 ·exact⟨q.1.1,fun h=>⟨q.1.2 h,q.2⟩,_,q.2⟩
noncomputable def iteV (p:Prop):PV->PV->Rs
 | .int a,.int b=>.ok (.int (@ite Int p (Classical.propDecidable p) a b))
 | .str a,.str b=>.ok (.str (@ite Str p (Classical.propDecidable p) a b))
 |_,_=>.bad
noncomputable def iteR (p:Prop):Rs->Rs->Rs
 | .ok a,.ok b=>iteV p a b
 | .ok a,.cond c b=>(iteV p a b).and (¬ p->c)
 | .cond c a,.ok b=>(iteV p a b).and (p->c)
 | .cond c a,.cond d b=>(iteV p a b).and ((p->c)/\(¬ p->d))
 |_,_=>.bad
noncomputable def rIte:Bs->Rs->Rs->Rs
 | .bad,_,_=>.bad
 | .ok p,a,b=>iteR p a b
 | .cond c p,a,b=>(iteR p a b).and c
theorem iteV_h {p:Prop}{k:PV->Prop}{a b:PV}(q:(iteV p a b).holds k):(p->k a)/\(¬ p->k b):=by
 cases a<;>cases b<;>first|exact q.elim|skip
 all_goals
  have q':k _:=q
  exact⟨fun h=>by rwa [if_pos h] at q',fun h=>by rwa [if_neg h] at q'⟩
theorem iteR_h {p:Prop}{k:PV->Prop}{a b:Rs}(q:(iteR p a b).holds k):(p->a.holds k)/\(¬ p->b.holds k):=by
 cases a<;>cases b<;>first|exact q.elim|skip
 ·exact iteV_h q
 ·exact⟨(iteV_h (Rs.and_h q).2).1,fun h=>⟨(Rs.and_h q).1 h,(iteV_h (Rs.and_h q).2).2 h⟩⟩
 ·exact⟨fun h=>⟨(Rs.and_h q).1 h,(iteV_h (Rs.and_h q).2).1 h⟩,(iteV_h (Rs.and_h q).2).2⟩
 ·exact⟨fun h=>⟨(Rs.and_h q).1.1 h,(iteV_h (Rs.and_h q).2).1 h⟩,fun h=>⟨(Rs.and_h q).1.2 h,(iteV_h (Rs.and_h q).2).2 h⟩⟩
theorem rIte_h {k:PV->Prop}{t:Bs}{a b:Rs}(q:(rIte t a b).holds k):t.holds fun p=>(p->a.holds k)/\(¬ p->b.holds k):=by
 cases t with
 |bad=>exact q.elim
 |ok p=>exact iteR_h q
 |cond c p=>exact⟨(Rs.and_h q).1,iteR_h (Rs.and_h q).2⟩
noncomputable def rName:Option Value->Rs
 |some v=>.ok (toPV v)
 |none=>.bad
noncomputable def rConst:Const->Rs
 | .int i=>.ok (.int i)
 | .str x=>.ok (.str x)
 | .none=>.ok .none
 | .bool b=>.ok (.bool b)
 |_=>.bad
noncomputable def pNeg:PV->Rs
 | .int a=>.ok (.int (-a))
 |_=>.bad
noncomputable def un1 (f:PV->Rs):Rs->Rs
 | .bad=>.bad
 | .ok a=>f a
 | .cond c a=>(f a).and c
theorem un1_h {f:PV->Rs}{k:PV->Prop}:∀{a:Rs},(un1 f a).holds k->a.holds fun x=>(f x).holds k
 | .ok _,q=>q
 | .cond _ _,q=>Rs.and_h q
noncomputable def pItem:PV->PV->Rs
 | .str x,.int i=>.cond (x.length<=16777216/\ -(x.length:Int)<=i/\i<(x.length:Int)) (.str (Txt.item x i))
 |_,_=>.bad
noncomputable def pSl:PV->Option Int->Option Int->Rs
 | .str x,lo,hi=>.cond (x.length<=16777216) (.str (Txt.slice x lo hi))
 |_,_,_=>.bad
noncomputable def rSl (v:PV):Hs->Hs->Rs
 | .ok a,.ok b=>pSl v a b
 | .ok a,.cond c b=>(pSl v a b).and c
 | .cond c a,.ok b=>(pSl v a b).and c
 | .cond c a,.cond d b=>(pSl v a b).and (c/\d)
 |_,_=>.bad
theorem rSl_h {v:PV}{k:PV->Prop}{a b:Hs}(q:(rSl v a b).holds k):a.holds fun x=>b.holds fun y=>(pSl v x y).holds k:=by
 cases a<;>cases b<;>first|exact q.elim|skip
 ·exact q
 ·exact Rs.and_h q
 ·exact Rs.and_h (r:=pSl _ _ _) q
 ·exact⟨(Rs.and_h q).1.1,(Rs.and_h q).1.2,(Rs.and_h q).2⟩
noncomputable def pBd:PV->Hs
 | .int i=>.ok (some i)
 | .none=>.ok none
 |_=>.bad
noncomputable def bdR (f:PV->Hs):Rs->Hs
 | .bad=>.bad
 | .ok v=>f v
 | .cond c v=>(f v).and c
theorem bdR_h {f:PV->Hs}{k:Option Int->Prop}:∀{a:Rs},(bdR f a).holds k->a.holds fun x=>(f x).holds k
 | .ok _,q=>q
 | .cond _ _,q=>Hs.and_h q
noncomputable def pOrN:PV->PV->Hs
 | .int i,.none=>.ok (if i=0 then none else some i)
 |_,_=>.bad
noncomputable def orN (a b:Rs):Hs:=match b with
 | .ok v=>bdR (fun x=>pOrN x v) a
 |_=>.bad
theorem orN_h {k:Option Int->Prop}{a b:Rs}(q:(orN a b).holds k):∃v,b=.ok v/\a.holds fun x=>(pOrN x v).holds k:=by
 cases b with
 |ok v=>exact⟨v,rfl,bdR_h q⟩
 |bad=>exact q.elim
 |cond c v=>exact q.elim
noncomputable def call1 (id:String):PV->Rs
 | .str x=>if id="len" then .cond (x.length<=16777216) (.int x.length) else if id="ord" then .cond (x.length=1) (.int (x.cps.getD 0 0)) else .bad
 | .int i=>if id="chr" then .cond (0<=i/\i<=1114111) (.str ⟨#[i.toNat]⟩) else .bad
 |_=>.bad
noncomputable def call2 (id:String):PV->PV->Rs
 | .int a,.int b=>if id="min" then .ok (.int (min a b)) else if id="max" then .ok (.int (max a b)) else .bad
 |_,_=>.bad
noncomputable def callB2 (id:String)(x y:PV):List PV->Rs
 | []=>call2 id x y
 |_::_=>.bad
noncomputable def callB1 (id:String)(x:PV):List PV->Rs
 | []=>call1 id x
 |y::r=>callB2 id x y r
noncomputable def callB (id:String):List PV->Rs
 | []=>.bad
 |x::r=>callB1 id x r
noncomputable def seqR:List Rs->(List PV->Rs)->Rs
 | [],f=>f []
 |a::r,f=>un1 (fun v=>seqR r fun vs=>f (v::vs)) a
noncomputable def plainArg (x:Expr):Bool:=@Expr.casesOn (fun e=>Bool) x (fun c b a=>true) (fun c b a=>true) (fun d c b a=>true) (fun c b a=>true) (fun d c b a=>true) (fun d c b a=>true) (fun c b a=>true) (fun c b a=>true) (fun d c b a=>true) (fun d c b a=>true) (fun e d c b a=>true) (fun d c b a=>true) (fun b a=>true) (fun b a=>true) (fun b a=>true) (fun d c b a=>true) (fun d c b a=>true) (fun d c b a=>true) (fun b a=>true) (fun c b a=>true) (fun c b a=>true) (fun c b a=>true) (fun b a=>false) (fun b a=>true) (fun b a=>true) (fun c b a=>true) (fun d c b a=>true)
noncomputable def nmOf (x:Expr):Option Str:=@Expr.casesOn (fun e=>Option Str) x (fun c b a=>none) (fun c b a=>none) (fun d c b a=>none) (fun c b a=>none) (fun d c b a=>none) (fun d c b a=>none) (fun c b a=>none) (fun c b a=>none) (fun d c b a=>none) (fun d c b a=>none) (fun e d c b a=>none) (fun d c b a=>none) (fun b a=>none) (fun b a=>none) (fun b a=>none) (fun d c b a=>none) (fun d c b a=>none) (fun d c b a=>none) (fun b a=>none) (fun c b a=>none) (fun c b a=>none) (fun c b a=>none) (fun b a=>none) (fun b a=>some b) (fun b a=>none) (fun c b a=>none) (fun d c b a=>none)
noncomputable def optG {α β:Type}(r:β)(f:α->β):Option α->β
 |some a=>f a
 |none=>r
set_option genInjectivity false in
set_option genSizeOf false in
inductive EV where
 |name (x:Str)|const (c:Const)|bin (l:Expr) (op:Operator) (r:Expr)|neg (x:Expr)|ite (t b o:Expr)
 |slice (v:Expr) (lo hi:Option Expr)|item (v i:Expr)|nitem (x:Str) (i:Expr)|call (f:Str) (x:Expr) (xs:List Expr)|attr (x a:Str)|bad
noncomputable def unView (x:Expr):UnaryOp->EV
 | .USub=>.neg x
 |_=>.bad
noncomputable def slView (v:Expr)(lo hi:Option Expr):Option Expr->EV
 |none=>.slice v lo hi
 |some _=>.bad
noncomputable def itView (i v:Expr):EV:=optG (.item v i) (fun x=>EV.nitem x i) (nmOf v)
noncomputable def subView (v x:Expr):EV:=@Expr.casesOn (fun e=>EV) x (fun c b a=>.bad) (fun c b a=>.bad) (fun d c b a=>itView x v) (fun c b a=>.bad) (fun d c b a=>.bad) (fun d c b a=>.bad) (fun c b a=>.bad) (fun c b a=>.bad) (fun d c b a=>.bad) (fun d c b a=>.bad) (fun e d c b a=>.bad) (fun d c b a=>.bad) (fun b a=>.bad) (fun b a=>.bad) (fun b a=>.bad) (fun d c b a=>.bad) (fun d c b a=>.bad) (fun d c b a=>.bad) (fun b a=>.bad) (fun c b a=>itView x v) (fun c b a=>.bad) (fun c b a=>.bad) (fun b a=>.bad) (fun b a=>itView x v) (fun b a=>.bad) (fun c b a=>.bad) (fun d c b a=>slView v d c b)
noncomputable def cArgs (x:Str):List Expr->EV
 | []=>.bad
 |y::ys=>if plainArg y&&ys.all plainArg then .call x y ys else .bad
noncomputable def cName (xs:List Expr)(f:Expr):EV:=optG .bad (fun x=>cArgs x xs) (nmOf f)
noncomputable def cView (f:Expr)(xs:List Expr):List Keyword->EV
 | []=>cName xs f
 |_::_=>.bad
noncomputable def atView (a:Str)(v:Expr):EV:=optG .bad (fun x=>EV.attr x a) (nmOf v)
noncomputable def eview (x:Expr):EV:=@Expr.casesOn (fun e=>EV) x (fun c b a=>.bad) (fun c b a=>.bad) (fun d c b a=>.bin d c b) (fun c b a=>unView b c) (fun d c b a=>.bad) (fun d c b a=>.ite d c b) (fun c b a=>.bad) (fun c b a=>.bad) (fun d c b a=>.bad) (fun d c b a=>.bad) (fun e d c b a=>.bad) (fun d c b a=>.bad) (fun b a=>.bad) (fun b a=>.bad) (fun b a=>.bad) (fun d c b a=>.bad) (fun d c b a=>cView d c b) (fun d c b a=>.bad) (fun b a=>.bad) (fun c b a=>.const c) (fun c b a=>atView b c) (fun c b a=>subView c b) (fun b a=>.bad) (fun b a=>.name b) (fun b a=>.bad) (fun c b a=>.bad) (fun d c b a=>.bad)
set_option genInjectivity false in
set_option genSizeOf false in
inductive BV where
 |cmp (l:Expr) (op:CmpOp) (r:Expr)|one (x:Expr)|and (x r:Expr)|or (x r:Expr)|not (x:Expr)|plain|bad
noncomputable def cmp3 (l:Expr)(op:CmpOp)(r:Expr):List Expr->BV
 | []=>if behindInMarks op r then .bad else .cmp l op r
 |_::_=>.bad
noncomputable def cmp2 (l:Expr)(op:CmpOp):List Expr->BV
 | []=>.bad
 |r::rs=>cmp3 l op r rs
noncomputable def cmp1 (l:Expr)(rs:List Expr)(op:CmpOp):List CmpOp->BV
 | []=>cmp2 l op rs
 |_::_=>.bad
noncomputable def cmp0 (l:Expr)(rs:List Expr):List CmpOp->BV
 | []=>.bad
 |op::os=>cmp1 l rs op os
noncomputable def bo1 (op:BoolOp)(p:Pos)(x:Expr):List Expr->BV
 | []=>.one x
 |y::r=>(match op with| .And=>.and x (.BoolOp .And (y::r) p)| .Or=>.or x (.BoolOp .Or (y::r) p))
noncomputable def bo0 (op:BoolOp)(p:Pos):List Expr->BV
 | []=>.bad
 |x::r=>bo1 op p x r
noncomputable def unB (x:Expr):UnaryOp->BV
 | .Not=>.not x
 |_=>.bad
noncomputable def bview (x:Expr):BV:=@Expr.casesOn (fun e=>BV) x (fun c b a=>bo0 c a b) (fun c b a=>.bad) (fun d c b a=>.plain) (fun c b a=>unB b c) (fun d c b a=>.bad) (fun d c b a=>.bad) (fun c b a=>.bad) (fun c b a=>.bad) (fun d c b a=>.bad) (fun d c b a=>.bad) (fun e d c b a=>.bad) (fun d c b a=>.bad) (fun b a=>.bad) (fun b a=>.bad) (fun b a=>.bad) (fun d c b a=>cmp0 d b c) (fun d c b a=>.plain) (fun d c b a=>.bad) (fun b a=>.bad) (fun c b a=>.bad) (fun c b a=>.plain) (fun c b a=>.plain) (fun b a=>.bad) (fun b a=>.plain) (fun b a=>.bad) (fun c b a=>.bad) (fun d c b a=>.bad)
set_option genInjectivity false in
set_option genSizeOf false in
inductive HV where|or (a b:Expr)|plain
noncomputable def hv2 (a b:Expr):List Expr->HV
 | []=>.or a b
 |_::_=>.plain
noncomputable def hv1 (a:Expr):List Expr->HV
 | []=>.plain
 |b::r=>hv2 a b r
noncomputable def hv0:List Expr->HV
 | []=>.plain
 |a::r=>hv1 a r
noncomputable def hvO (xs:List Expr):BoolOp->HV
 | .Or=>hv0 xs
 | .And=>.plain
noncomputable def hview (x:Expr):HV:=@Expr.casesOn (fun e=>HV) x (fun c b a=>hvO b c) (fun c b a=>.plain) (fun d c b a=>.plain) (fun c b a=>.plain) (fun d c b a=>.plain) (fun d c b a=>.plain) (fun c b a=>.plain) (fun c b a=>.plain) (fun d c b a=>.plain) (fun d c b a=>.plain) (fun e d c b a=>.plain) (fun d c b a=>.plain) (fun b a=>.plain) (fun b a=>.plain) (fun b a=>.plain) (fun d c b a=>.plain) (fun d c b a=>.plain) (fun d c b a=>.plain) (fun b a=>.plain) (fun c b a=>.plain) (fun c b a=>.plain) (fun c b a=>.plain) (fun b a=>.plain) (fun b a=>.plain) (fun b a=>.plain) (fun c b a=>.plain) (fun d c b a=>.plain)
set_option genInjectivity false in
set_option genSizeOf false in
structure Tb where
 gl:List (Str×Value)
 il:List (Str×List Int):=[]
 ats:List ((Str×Str)×Value):=[]
 fo:List (Str×(List PV->Rs)):=[]
 nm:List (Str×Value):=[]
section
variable (env:Env)(m:Str->Option Value)(tb:Tb)
noncomputable def pNmK (x:Str):Option NameKind->Option Value
 |none=>none
 |some k=>match k with
  | .local=>m x
  | .globalImplicit=>tb.gl.lookup x
  | .cell=>tb.nm.lookup x
  | .free=>none
  | .globalExplicit=>none
noncomputable def pNm (x:Str):Option Value:=cond (x==ofString "__debug__") none (pNmK m tb x (env.kindOf x))
noncomputable def isBv:Value->Option String
 | .builtin id=>some id
 |_=>none
noncomputable def isB:Option Value->Option String
 |some v=>isBv v
 |none=>none
noncomputable def pItemI (ns:List Int):PV->Rs
 | .int k=>.cond (ns.length<=1000000/\0<=k/\k<(ns.length:Int)) (.int (ns.getD k.toNat 0))
 |_=>.bad
noncomputable def rFo:Option (List PV->Rs)->List Rs->Rs
 |some f,r=>seqR r f
 |none,_=>.bad
noncomputable def lenI (tb:Tb)(e:Expr):Option (List Int):=optG none (fun x=>tb.il.lookup x) (nmOf e)
noncomputable def rLen (ns:List Int):Rs:=.cond (ns.length<=16384) (.int ns.length)
noncomputable def lenR1 (r:Rs):Option (List Int)->Rs
 |some ns=>rLen ns
 |none=>r
noncomputable def lenR (r:Rs)(o:Option (List Int)):Bool->Rs
 |true=>lenR1 r o
 |false=>r
section
variable (V:Expr->Rs)(B:Expr->Bs)(H:Option Expr->Hs)
noncomputable def pVb:EV->Rs
 | .name x=>rName (pNm env m tb x)
 | .const c=>rConst c
 | .bin l op r=>bin2 (pBin op) (V l) (V r)
 | .neg x=>un1 pNeg (V x)
 | .ite t b o=>rIte (B t) (V b) (V o)
 | .slice v lo hi=>un1 (fun x=>rSl x (H lo) (H hi)) (V v)
 | .item v i=>bin2 pItem (V v) (V i)
 | .nitem x i=>optG (bin2 pItem (rName (pNm env m tb x)) (V i)) (fun ns=>un1 (pItemI ns) (V i)) (tb.il.lookup x)
 | .call f x xs=>optG (rFo (tb.fo.lookup f) (V x::xs.map V)) (fun id=>lenR (seqR (V x::xs.map V) (callB id)) (lenI tb x) (id=="len"&&xs.isEmpty)) (isB (pNm env m tb f))
 | .attr x a=>rName (tb.ats.lookup (x,a))
 | .bad=>.bad
noncomputable def pBb (r:Rs):BV->Bs
 | .cmp l op r=>bin2B (pCmp op) (V l) (V r)
 | .one x=>B x
 | .and x r=>andB (B x) (B r)
 | .or x r=>orB (B x) (B r)
 | .not x=>notB (B x)
 | .plain=>truB r
 | .bad=>.bad
noncomputable def pHb (r:Rs):HV->Hs
 | .or a b=>orN (V a) (V b)
 | .plain=>bdR pBd r
end
noncomputable def pHo (V:Expr->Rs):Option Expr->Hs
 |none=>.ok none
 |some e=>pHb V (V e) (hview e)
structure P3 where
 V:Expr->Rs
 B:Expr->Bs
 H:Option Expr->Hs
noncomputable def pA (n:Nat):P3:=Nat.rec ⟨fun _=>.bad,fun _=>.bad,fun _=>.bad⟩ (fun _ p=>⟨fun e=>pVb env m tb p.V p.B p.H (eview e),fun e=>pBb p.V p.B (p.V e) (bview e),pHo p.V⟩) n
noncomputable def pV (n:Nat):Expr->Rs:=(pA env m tb n).V
noncomputable def pB (n:Nat):Expr->Bs:=(pA env m tb n).B
noncomputable def pH (n:Nat):Option Expr->Hs:=(pA env m tb n).H
end
section
variable {prog:Program}{w:World}{A:Around}{E:Value->Shared->Prop}{s:Shared}{h₀:Heap}{L a:Addr}{cn:Str}{cs:Scope}{cd:Value}{cl:List (Str×Addr)}{news:Led}{m:Str->Option Value}{gl:List (Str×Value)}
noncomputable def GlOk (prog:Program)(w:World)(h₀:Heap)(gl:List (Str×Value)):Prop:=
 ∀x v,gl.lookup x=some v->∀(A:Around) (E:Value->Shared->Prop) (L a:Addr) (cn:Str) (cs:Scope) (cd:Value) (cl:List (Str×Addr)) (m:Str->Option Value) (s:Shared) (Q:Value->Shared->Prop) (pos:Pos),
  cs.kind=.function->(envX cn cs L a cd cl).kindOf x=some .globalImplicit->(x==ofString "__debug__")=false->Fr h₀ L s.heap m->Q v s->wpAny (model prog w) A (eval (.Name x pos) (envX cn cs L a cd cl)) Q E s
theorem binop_ok {op:Operator}{x y:PV}{t u:Tok}{Q:Value->Shared->Prop}(q:(pBin op x y).holds fun v=>∀tk t,Q (v.den t) { s with toks:=tk }):
  wpAny (model prog w) A (binaryOp op (x.den t) (y.den u)) Q E s:=by
 cases x<;>cases y<;>try exact q.elim
 case int.int=>
  cases op<;>try exact q.elim
  ·exact add_int (q _ _)
  ·exact sub_int (q _ _)
  ·exact mul_int (q.2 _ _) (IntMulOk.of_left (intBits_le_64 (by have:=q.1;omega) (by have:=q.1;omega)))
  ·exact mod_int' (by have:=q.1;omega) (q.2 _ _)
  ·exact floordiv_int (by have:=q.1;omega) (q.2 _ _) (.inl (PyProof.noPylong_small (by have:=q.1;omega)))
 case str.int=>
  cases op<;>try exact q.elim
  exact KXi.mul rfl q.1.1 (by have:=q.1;omega) (by have:=q.1;omega) fun t' k _ _=>q.2 _ _
 case str.str=>
  cases op<;>try exact q.elim
  exact SB.add (fun t' k=>q.2 _ _) q.1
theorem iop_ok {op:Operator}{x y:PV}{t u:Tok}{Q:Value->Shared->Prop}(ho:op=.Add∨op=.Sub)(q:(pBin op x y).holds fun v=>∀tk t,Q (v.den t) { s with toks:=tk }):
  wpAny (model prog w) A (inplaceOp op (x.den t) (y.den u)) Q E s:=by
 cases x<;>cases y<;>try exact q.elim
 case int.int=>
  rcases ho with rfl|rfl
  ·exact iadd_int (q _ _)
  ·exact isub_int (q _ _)
 case str.int=>
  rcases ho with rfl|rfl<;>exact q.elim
 case str.str=>
  rcases ho with rfl|rfl
  ·exact SB.iadd (fun t' k=>q.2 _ _) q.1
  ·exact q.elim
theorem cmp_ok {op:CmpOp}{x y:PV}{t u:Tok}{Q:Value->Shared->Prop}(q:(pCmp op x y).holds fun p=>∀b,(b=true↔p)->Q (.bool b) s):
  wpAny (model prog w) A (compareOp op (x.den t) (y.den u)) Q E s:=by
 cases x<;>cases y<;>try exact q.elim
 case int.int=>
  cases op<;>try exact q.elim
  ·exact eq_int (q _ beq_iff_eq)
  ·exact ne_int (q _ bne_iff_ne)
  ·exact lt_int (q _ decide_eq_true_iff)
  ·exact le_int (q _ decide_eq_true_iff)
  ·exact gt_int (q _ decide_eq_true_iff)
  ·exact ge_int (q _ decide_eq_true_iff)
 case str.str=>
  cases op<;>try exact q.elim
  ·exact eq_str (q _ beq_iff_eq)
  ·exact ne_str (q _ bne_iff_ne)
  ·exact in_str (q _ (by rw[Bool.not_eq_true']))
theorem tru_ok {x:PV}{t:Tok}{Q:Bool->Shared->Prop}(q:(pTru x).holds fun p=>∀b tk,(b=true↔p)->Q b { s with toks:=tk }):
  wpAny (model prog w) A (truthy (x.den t)) Q E s:=by
 cases x<;>try exact q.elim
 case int=>exact truthy_int (q _ s.toks bne_iff_ne)
 case str=>
  have:=q.1
  exact SBL.truthy (by omega) (q.2 _ _ (by rw[bne_iff_ne];omega))
 case bool=>exact wpAny_truthy_bool (q b s.toks Iff.rfl)
 case none=>exact truthy_none (q false s.toks (by simp))
theorem let_str (v:Expr)(x:Str)(t:Tok)(r:Value):letTemporaryGo v (.str x t) r=pure ():=by cases v<;>rfl
theorem item_ok {v i:Expr}{x y:PV}{t u:Tok}{Q:Value->Shared->Prop}(hs:∀o j,subscripted i false o j=operate [o,j] (getItem o j))
  (q:(pItem x y).holds fun v=>∀tk t,Q (v.den t) { s with toks:=tk }):wpAny (model prog w) A (subscriptTail v i (x.den t) (y.den u)) Q E s:=by
 cases x<;>cases y<;>try exact q.elim
 case str.int=>
  have:=q.1
  exact item_str (fitsSsize_of (N:=9223372036854775807) (by omega) (by omega) (by omega)) this.2.1 this.2.2 (fun _=>q.2 _ _) (hs _ _) (let_str _ _ _)
theorem call1_ok {id:String}{x:PV}{t:Tok}{Q:Value->Shared->Prop}(q:(call1 id x).holds fun v=>∀tk t,Q (v.den t) { s with toks:=tk }):wpAny (model prog w) A (call (.builtin id) [x.den t]) Q E s:=by
 cases x<;>try exact q.elim
 case str=>
  unfold call1 at q
  dsimp only at q
  split at q
  ·rename id=_=>e;subst e
   have:=q.1
   exact P.len_str (by omega) (q.2 _ _)
  ·split at q
   ·rename id=_=>e;subst e
    exact ord_of_one q.1 (q.2 _ _)
   ·exact q.elim
 case int=>
  unfold call1 at q
  dsimp only at q
  split at q
  ·rename id=_=>e;subst e
   exact chr_of_range q.1.1 q.1.2 (q.2 _ _)
  ·exact q.elim
theorem call2_ok {id:String}{x y:PV}{t u:Tok}{Q:Value->Shared->Prop}(hh:A.handled=none)(F:Fr h₀ L s.heap m)(N:News h₀ L s.heap news)
  (q:(call2 id x y).holds fun v=>∀h' tk t,Fr h₀ L h' m->News h₀ L h' news->Q (v.den t) { s with heap:=h',toks:=tk }):wpAny (model prog w) A (call (.builtin id) [x.den t,y.den u]) Q E s:=by
 cases x<;>cases y<;>try exact q.elim
 case int.int=>
  unfold call2 at q
  dsimp only at q
  split at q
  ·rename id=_=>e;subst e
   refine min_two_N hh F N fun h' tk F' N'=>?_
   rw[mm]
   exact q _ _ _ F' N'
  ·split at q
   ·rename id=_=>e;subst e
    refine max_two_N hh F N fun h' tk F' N'=>?_
    rw[show(if i_1>i then i_1 else i)=max i i_1 by rw[Int.max_def];split<;>split<;>omega]
    exact q _ _ _ F' N'
   ·exact q.elim
noncomputable def PartV:Option Int->Value->Prop
 |none,v=>v=.none
 |some i,v=>∃t,v=.int i t
theorem slice_ok {v:Expr}{lo hi:Option Expr}{p:Pos}{x:PV}{o1 o2:Option Int}{v1 v2:Value}{t:Tok}{Q:Value->Shared->Prop}(F:Fr h₀ L s.heap m)(N:News h₀ L s.heap news)
  (h1:PartV o1 v1) (h2:PartV o2 v2) (q:(pSl x o1 o2).holds fun v=>∀h' tk t,Fr h₀ L h' m->News h₀ L h' news->Q (v.den t) { s with heap:=h',toks:=tk }):
  wpAny (model prog w) A (subscriptTail v (.Slice lo hi none p) (x.den t) (.ref s.heap.objs.size)) Q E { s with heap:=s.heap.push { cls:=.type "slice",data:=.fields #[v1,v2,.none] } }:=by
 cases x with
 |int|bool|none|val=>exact q.elim
 |str x=>
  have hz:x.length<=sizeLine:=q.1
  have ht:∀r,letTemporaryGo v (.str x t) r=pure ():=let_str _ _ _
  cases o1<;>cases o2
  ·cases h1;cases h2
   exact slice_strN_nn F N (fun h' t' k F' N'=>q.2 _ _ _ F' N') rfl (let_str _ _ _) hz
  ·cases h1;obtain⟨_,rfl⟩:=h2
   exact slice_strN_ns F N (fun h' t' k F' N'=>q.2 _ _ _ F' N') rfl (let_str _ _ _) hz
  ·cases h2;obtain⟨_,rfl⟩:=h1
   exact slice_strN_sn F N (fun h' t' k F' N'=>q.2 _ _ _ F' N') rfl (let_str _ _ _) hz
  ·obtain⟨_,rfl⟩:=h1;obtain⟨_,rfl⟩:=h2
   exact slice_strN_ss F N (fun h' t' k F' N'=>q.2 _ _ _ F' N') rfl (let_str _ _ _) hz
inductive VsDen:List PV->List Value->Prop
 |nil:VsDen [] []
 |cons {p:PV} {v:Value} {ps:List PV} {vs:List Value} (h:∃t,v=p.den t) (r:VsDen ps vs):VsDen (p::ps) (v::vs)
theorem callB_ok {id:String}{ps:List PV}{vs:List Value}{Q:Value->Shared->Prop}(hh:A.handled=none)(F:Fr h₀ L s.heap m)(N:News h₀ L s.heap news)(hv:VsDen ps vs)
  (q:(callB id ps).holds fun v=>∀h' tk t,Fr h₀ L h' m->News h₀ L h' news->Q (v.den t) { s with heap:=h',toks:=tk }):wpAny (model prog w) A (call (.builtin id) vs) Q E s:=by
 cases hv with
 |nil=>exact q.elim
 |cons h1 r1=>
  obtain⟨t,rfl⟩:=h1
  cases r1 with
  |nil=>exact call1_ok (Rs.mono (fun v q3 tk3 t3=>q3 s.heap tk3 t3 F N) q)
  |cons h2 r2=>
   obtain⟨u,rfl⟩:=h2
   cases r2 with
   |nil=>exact call2_ok hh F N q
   |cons _ _=>exact q.elim
end
theorem star1 {e:Expr}{r:List Expr}{env:Env}(h:plainArg e=true):starEach (e::r) env=(false,eval e env)::starEach r env:=by
 cases e<;>first|rfl|cases h
theorem starAll {env:Env}{pos:Pos}:∀{r:List Expr},r.all plainArg=true->((backTo pos (starEach r env)).any fun x=>x.1)=false
 | [],_=>rfl
 |e::r,h=>by
  rw[List.all_cons,Bool.and_eq_true] at h
  rw[star1 h.1]
  show(false||((backTo pos (starEach r env)).any fun x=>x.1))=false
  rw[starAll h.2]
  rfl
noncomputable def EV.Spec (e:Expr):EV->Prop
 | .bad=>True
 | .name x=>∃p,e=.Name x p
 | .const c=>∃k p,e=.Constant c k p
 | .bin l op r=>∃p,e=.BinOp l op r p
 | .neg x=>∃p,e=.UnaryOp .USub x p
 | .ite t b o=>∃p,e=.IfExp t b o p
 | .slice v lo hi=>∃p p',e=.Subscript v (.Slice lo hi none p') p
 | .item v i=>(∀o j,subscripted i false o j=operate [o,j] (getItem o j))/\∃p,e=.Subscript v i p
 | .nitem x i=>(∀o j,subscripted i false o j=operate [o,j] (getItem o j))/\∃p' p,e=.Subscript (.Name x p') i p
 | .call f x xs=>(plainArg x=true/\xs.all plainArg=true)/\∃p p',e=.Call (.Name f p) (x::xs) [] p'
 | .attr x a=>∃p p',e=.Attribute (.Name x p) a p'
theorem itView_spec {i v:Expr}{p:Pos}(h:∀o j,subscripted i false o j=operate [o,j] (getItem o j)):(itView i v).Spec (.Subscript v i p):=by
 cases v<;>first|exact⟨h,_,_,rfl⟩|exact⟨h,_,rfl⟩
theorem un_spec {op:UnaryOp}{x:Expr}{p:Pos}:(unView x op).Spec (.UnaryOp op x p):=by
 cases op<;>first|trivial|exact⟨_,rfl⟩
theorem at_spec {v:Expr}{a:Str}{p:Pos}:(atView a v).Spec (.Attribute v a p):=by
 cases v<;>first|trivial|exact⟨_,_,rfl⟩
theorem sub_spec {v s:Expr}{p:Pos}:(subView v s).Spec (.Subscript v s p):=by
 cases s with
 |Slice lo hi st p'=>cases st<;>first|trivial|exact⟨_,_,rfl⟩
 |Name|BinOp|Constant=>exact itView_spec fun _ _=>rfl
 |_=>trivial
theorem c_spec {f:Expr}{xs:List Expr}{ks:List Keyword}{p:Pos}:(cView f xs ks).Spec (.Call f xs ks p):=by
 cases ks with
 |cons=>trivial
 |nil=>cases f with
  |Name=>cases xs with
   |nil=>trivial
   |cons y ys=>
    show EV.Spec _ (if plainArg y&&ys.all plainArg then _ else _)
    by_cases h:(plainArg y&&ys.all plainArg)=true
    ·rw[if_pos h];exact⟨Bool.and_eq_true_iff.mp h,_,_,rfl⟩
    ·rw[if_neg h];trivial
  |_=>trivial
theorem eview_spec (e:Expr):(eview e).Spec e:=by
 cases e<;>try trivial
 case Name=>exact⟨_,rfl⟩
 case Constant=>exact⟨_,_,rfl⟩
 case BinOp=>exact⟨_,rfl⟩
 case UnaryOp=>exact un_spec
 case IfExp=>exact⟨_,rfl⟩
 case Attribute=>exact at_spec
 case Subscript=>exact sub_spec
 case Call=>exact c_spec
noncomputable def BV.Spec (e:Expr):BV->Prop
 | .bad=>True
 | .cmp l op r=>behindInMarks op r=false/\∃p,e=.Compare l [op] [r] p
 | .one x=>∃op p,e=.BoolOp op [x] p
 | .and x r=>∃y ys p,e=.BoolOp .And (x::y::ys) p/\r=.BoolOp .And (y::ys) p
 | .or x r=>∃y ys p,e=.BoolOp .Or (x::y::ys) p/\r=.BoolOp .Or (y::ys) p
 | .not x=>∃p,e=.UnaryOp .Not x p
 | .plain=>∀env whole,isTrue e env whole=(do let v<-whole;standAt e.pos;holding [v] (truthy v))
theorem not_spec {op:UnaryOp}{x:Expr}{p:Pos}:(bview (.UnaryOp op x p)).Spec (.UnaryOp op x p):=by
 cases op<;>first|trivial|exact⟨_,rfl⟩
theorem cmp_spec {l:Expr}{ops:List CmpOp}{rs:List Expr}{p:Pos}:(cmp0 l rs ops).Spec (.Compare l ops rs p):=by
 rcases ops with _|⟨op,_|⟨_,_⟩⟩<;>try trivial
 rcases rs with _|⟨r,_|⟨_,_⟩⟩<;>try trivial
 show(if behindInMarks op r then BV.bad else .cmp l op r).Spec _
 by_cases h:behindInMarks op r=true
 ·rw[if_pos h];trivial
 ·rw[if_neg h];exact⟨Bool.not_eq_true _▸h,_,rfl⟩
theorem bo_spec {op:BoolOp}{xs:List Expr}{p:Pos}:(bo0 op p xs).Spec (.BoolOp op xs p):=by
 rcases xs with _|⟨x,_|⟨y,r⟩⟩
 ·trivial
 ·exact⟨_,_,rfl⟩
 ·cases op
  ·exact⟨_,_,_,rfl,rfl⟩
  ·exact⟨_,_,_,rfl,rfl⟩
theorem bview_spec (e:Expr):(bview e).Spec e:=by
 cases e<;>try trivial
 case Compare=>exact cmp_spec
 case BoolOp=>exact bo_spec
 case UnaryOp=>exact not_spec
 all_goals exact fun _ _=>rfl
noncomputable def HV.Spec (e:Expr):HV->Prop
 | .or a b=>∃p,e=.BoolOp .Or [a,b] p
 | .plain=>True
theorem hv_spec {op:BoolOp}{xs:List Expr}{p:Pos}:(hview (.BoolOp op xs p)).Spec (.BoolOp op xs p):=by
 cases op
 ·trivial
 ·rcases xs with _|⟨x,_|⟨y,_|⟨z,r⟩⟩⟩<;>try trivial
  exact⟨_,rfl⟩
theorem hview_spec (e:Expr):(hview e).Spec e:=by
 cases e<;>try trivial
 case BoolOp=>exact hv_spec
theorem lookup_in {κ α:Type}[BEq κ][LawfulBEq κ]{x:κ}{v:α}:∀{l:List (κ×α)},l.lookup x=some v->(x,v)∈l
 | [],h=>by cases h
 |(y,u)::r,h=>by
  rw[List.lookup_cons] at h
  split at h
  ·rename (_==_)=true=>e
   cases h
   rw[eq_of_beq e]
   exact .head _
  ·exact .tail _ (lookup_in h)
set_option genInjectivity false in
set_option genSizeOf false in
structure Cx where
 prog:Program
 w:World
 A:Around
 E:Value->Shared->Prop
 h₀:Heap
 L:Addr
 s:Shared
 gl:List (Str×Value)
 cn:Str
 cs:Scope
 a:Addr
 cd:Value
 cl:List (Str×Addr)
 Q:Flow->Shared->Prop
 hk:cs.kind=.function
 hh:A.handled=none
 hG:GlOk prog w h₀ gl
noncomputable abbrev Cx.env (C:Cx):Env:=envX C.cn C.cs C.L C.a C.cd C.cl
noncomputable abbrev Cx.sg (C:Cx)(h:Heap)(tk:Nat):Shared:={ C.s with heap:=h,toks:=tk }
noncomputable abbrev Cx.M (C:Cx):Model:=model C.prog C.w
noncomputable def At (C:Cx)(m:Str->Option Value)(nw:Led)(T:Shared->Prop):Prop:=∀h tk,Fr C.h₀ C.L h m->News C.h₀ C.L h nw->T (C.sg h tk)
noncomputable def Ev (C:Cx)(m:Str->Option Value)(nw:Led){α:Type}(t:Sem α)(q:(α->Shared->Prop)->Prop):Prop:=∀Q:α->Shared->Prop,q Q->At C m nw fun s=>wpAny C.M C.A t Q C.E s
noncomputable abbrev VK (C:Cx)(m:Str->Option Value)(nw:Led)(Q:Value->Shared->Prop):PV->Prop:=fun v=>∀t,At C m nw (Q (v.den t))
noncomputable abbrev BK (C:Cx)(m:Str->Option Value)(nw:Led)(Q:Bool->Shared->Prop):Prop->Prop:=fun p=>∀b,(b=true↔p)->At C m nw (Q b)
noncomputable abbrev HK (C:Cx)(m:Str->Option Value)(nw:Led)(Q:Value->Shared->Prop):Option Int->Prop:=fun o=>∀v,PartV o v->At C m nw (Q v)
noncomputable def SeqIn (nw:Led)(a:Addr)(vs:List Value):Prop:=(∃n,(a,listOf vs.toArray n)∈nw)∨(a,({ cls:=.type "tuple",data:=.seq vs.toArray }:Obj))∈nw
noncomputable def FnOk (C:Cx)(f:Str)(r:List PV->Rs):Prop:=
 ∀(m:Str->Option Value) (nw:Led) (x:Expr) (xs:List Expr) (p p':Pos) (Q:Value->Shared->Prop),plainArg x=true->xs.all plainArg=true->
  (At C m nw fun s=>wpAny C.M C.A (spliced (backTo p' (starEach (x::xs) C.env))) (fun vs s'=>∃ps,VsDen ps vs/\(r ps).holds (VK C m nw Q)/\∃h tk,s'=C.sg h tk/\Fr C.h₀ C.L h m/\News C.h₀ C.L h nw) C.E s)->
  At C m nw fun s=>wpAny C.M C.A (eval (.Call (.Name f p) (x::xs) [] p') C.env) Q C.E s
noncomputable def AttrOk (C:Cx)(nw:Led)(d:Addr)(a:Str)(v:Value):Prop:=
 ∀(m:Str->Option Value) (nw':Led),(∀p∈nw,p∈nw')->Ev C m nw' (getAttr (.ref d) a true) fun Q=>At C m nw' (Q v)
noncomputable def NmIs (C:Cx)(m:Str->Option Value)(nw:Led)(x:Str)(v:Value):Prop:=
 (x==ofString "__debug__")=false/\((C.env.kindOf x=some .local/\m x=some v)∨(C.env.kindOf x=some .cell/\∃c o,C.cl.lookup x=some c/\(c,o)∈nw/\o.data=.cell (some v)))
theorem NmIs.loc {C:Cx}{m:Str->Option Value}{nw:Led}{x:Str}{v:Value}(hm:m x=some v)(hx:C.env.kindOf x=some .local)(hd:(x==ofString "__debug__")=false):NmIs C m nw x v:=⟨hd,.inl ⟨hx,hm⟩⟩
theorem NmIs.ev {C:Cx}{m:Str->Option Value}{nw:Led}{x:Str}{v:Value}(h:NmIs C m nw x v)(p:Pos):Ev C m nw (eval (.Name x p) C.env) fun Q=>At C m nw (Q v):=by
 intro Q q h1 tk F N
 obtain⟨hd,⟨hx,hm⟩|⟨hx,c,o,hc,hmem,ho⟩⟩:=h
 ·exact nameX_L F hm (q h1 tk F N) C.hk hx hd
 ·exact nameX_C N hc hmem ho (q h1 tk F N) C.hk hx hd
theorem NmIs.up {C:Cx}{m m':Str->Option Value}{nw nw':Led}{x:Str}{v:Value}(h:NmIs C m nw x v)(hm:m' x=m x)(hs:∀p∈nw,p∈nw'):NmIs C m' nw' x v:=by
 obtain⟨hd,⟨hx,e⟩|⟨hx,c,o,hc,hmem,ho⟩⟩:=h
 ·exact⟨hd,.inl ⟨hx,hm.trans e⟩⟩
 ·exact⟨hd,.inr ⟨hx,c,o,hc,hs _ hmem,ho⟩⟩
structure TbOk (C:Cx) (m:Str->Option Value) (nw:Led) (tb:Tb):Prop where
 gl:tb.gl=C.gl
 il:∀x ns,tb.il.lookup x=some ns->∃a vs,NmIs C m nw x (.ref a)/\SeqIn nw a vs/\IntsAre vs ns
 ats:∀x a v,tb.ats.lookup (x,a)=some v->∃d,NmIs C m nw x (.ref d)/\AttrOk C nw d a v
 fo:∀f r,tb.fo.lookup f=some r->FnOk C f r
 nm:∀x v,tb.nm.lookup x=some v->NmIs C m nw x v
theorem tb0 {C:Cx}{m:Str->Option Value}{nw:Led}:TbOk C m nw { gl:=C.gl }:=⟨rfl,fun _ _ h=>(by cases h),fun _ _ _ h=>(by cases h),fun _ _ h=>(by cases h),fun _ _ h=>(by cases h)⟩
theorem nm_ok {C:Cx}{m:Str->Option Value}{nw:Led}{tb:Tb}{x:Str}{v:Value}(ht:TbOk C m nw tb)(h:pNm C.env m tb x=some v)(p:Pos):Ev C m nw (eval (.Name x p) C.env) fun Q=>At C m nw (Q v):=by
 intro Q q h1 tk F N
 cases hd:(x==ofString "__debug__") with
 |true=>rw[pNm,hd] at h;cases h
 |false=>
  rw[pNm,hd] at h
  cases hx:C.env.kindOf x with
  |none=>rw[hx] at h;cases h
  |some k=>
   rw[hx] at h
   cases k with
   |free|globalExplicit=>cases h
   |cell=>exact(ht.nm _ _ h).ev p Q q h1 tk F N
   | «local» =>exact nameX_L F h (q h1 tk F N) C.hk hx hd
   |globalImplicit=>exact C.hG _ _ (ht.gl▸h) _ _ _ _ _ _ _ _ _ _ _ _ C.hk hx hd F (q h1 tk F N)
theorem isB_ok {o:Option Value}{id:String}(h:isB o=some id):o=some (.builtin id):=by
 cases o with
 |none=>cases h
 |some v=>cases v<;>first|(cases h;done)|(cases h;rfl)
section
variable {C:Cx}{m:Str->Option Value}{nw:Led}{tb:Tb}
theorem name_ok {x:Str}(ht:TbOk C m nw tb)(p:Pos)(Q:Value->Shared->Prop)(q:(rName (pNm C.env m tb x)).holds (VK C m nw Q)):At C m nw fun s=>wpAny C.M C.A (eval (.Name x p) C.env) Q C.E s:=by
 cases hm:pNm C.env m tb x with
 |none=>rw[hm] at q;exact q.elim
 |some v=>
  rw[hm] at q
  obtain⟨t,e⟩:=toPV_den v
  exact nm_ok ht hm p Q (e▸q t)
theorem seq_ok {p:Pos}:∀{xs:List Expr} {n:Nat} (_:∀(e:Expr) (Q:Value->Shared->Prop),(pV C.env m tb n e).holds (VK C m nw Q)->At C m nw fun s=>wpAny C.M C.A (eval e C.env) Q C.E s)
  (_:xs.all plainArg=true) {f:List PV->Rs} {k:PV->Prop} (_:(seqR (xs.map (pV C.env m tb n)) f).holds k),
  Ev C m nw (spliced (backTo p (starEach xs C.env))) fun Q=>∀ps vs,VsDen ps vs->(f ps).holds k->At C m nw (Q vs)
 | [],n,_,_,f,k,q=>fun Q hQ h tk F N=>args_nil (hQ [] [] .nil q h tk F N)
 |e::r,n,ih,hp,f,k,q=>by
  intro Q hQ h tk F N
  rw[List.all_cons,Bool.and_eq_true] at hp
  refine args_cons (ih e _ (Rs.mono (fun v q1 t h1 tk1 F1 N1=>?_) (un1_h q)) h tk F N) (star1 hp.1)
  exact seq_ok (xs:=r) ih hp.2 q1 _ (fun ps vs hv h2=>hQ (v::ps) (v.den t::vs) (.cons ⟨t,rfl⟩ hv) h2) h1 tk1 F1 N1
end
theorem pv_all {C:Cx}{m:Str->Option Value}{nw:Led}{tb:Tb}(ht:TbOk C m nw tb):∀n,
  (∀e (Q:Value->Shared->Prop),(pV C.env m tb n e).holds (VK C m nw Q)->At C m nw fun s=>wpAny C.M C.A (eval e C.env) Q C.E s)/\
  (∀e (Q:Bool->Shared->Prop),(pB C.env m tb n e).holds (BK C m nw Q)->At C m nw fun s=>wpAny C.M C.A (isTrue e C.env (eval e C.env)) Q C.E s)/\
  (∀o (Q:Value->Shared->Prop),(pH C.env m tb n o).holds (HK C m nw Q)->At C m nw fun s=>wpAny C.M C.A (evalPart o C.env) Q C.E s)
 |0=>⟨fun _ _ q=>q.elim,fun _ _ q=>q.elim,fun _ _ q=>q.elim⟩
 |n+1=>by
  obtain⟨ihV,ihB,ihH⟩:=pv_all ht n
  refine⟨fun e Q q=>?_,fun e Q q=>?_,fun o Q q=>?_⟩
  ·replace q:(pVb C.env m tb (pV C.env m tb n) (pB C.env m tb n) (pH C.env m tb n) (eview e)).holds (VK C m nw Q):=q
   have hs:=eview_spec e
   generalize eview e=ev at q hs
   cases ev with
   |bad=>exact q.elim
   |name x=>
    obtain⟨pos,rfl⟩:=hs
    exact name_ok ht pos Q q
   |const c=>
    obtain⟨k,p,rfl⟩:=hs
    intro h tk F N
    cases c<;>try exact q.elim
    ·exact wpAny_Constant_none (q 0 h tk F N)
    ·exact wpAny_Constant_bool (q 0 h tk F N)
    ·exact wpAny_Constant_int (q _ h _ F N)
    ·exact Constant_str (q _ h _ F N)
   |bin l op r=>
    obtain⟨p,rfl⟩:=hs
    intro h tk F N
    refine wpAny_BinOp (ihV l _ (Rs.mono (fun v q1 t1=>?_) (bin2_h q)) h tk F N)
    refine ihV r _ (Rs.mono (fun v2 q2 t2 h2 tk2 F2 N2=>?_) q1)
    exact binop_ok (s:=C.sg h2 tk2) (Rs.mono (fun v q3 tk3 t3=>q3 t3 h2 tk3 F2 N2) q2)
   |neg x=>
    obtain⟨p,rfl⟩:=hs
    intro h tk F N
    refine UnaryOp_ (ihV x _ (Rs.mono (fun v q1 t1 h1 tk1 F1 N1=>?_) (un1_h q)) h tk F N)
    cases v<;>try exact q1.elim
    exact neg_int (q1 _ h1 _ F1 N1)
   |ite t b o=>
    obtain⟨p,rfl⟩:=hs
    intro h tk F N
    refine IfExp_ (ihB t _ (Bs.mono (fun P q1 c hc=>?_) (rIte_h q)) h tk F N)
    cases c with
    |true=>exact ihV b _ (q1.1 (hc.mp rfl))
    |false=>exact ihV o _ (q1.2 fun hp=>Bool.false_ne_true (hc.mpr hp))
   |slice v lo hi=>
    obtain⟨p,p',rfl⟩:=hs
    intro h tk F N
    refine Subscript_ (ihV v _ (Rs.mono (fun x q1 t1 h1 tk1 F1 N1=>?_) (un1_h q)) h tk F N)
    refine wpAny_Slice (ihH lo _ (Hs.mono (fun o1 q2 v1 p1=>?_) (rSl_h q1)) h1 tk1 F1 N1)
    refine ihH hi _ (Hs.mono (fun o2 q3 v2 p2 h3 tk3 F3 N3=>?_) q2)
    exact evalPart_none_step (slice_ok (s:=C.sg h3 tk3) F3 N3 p1 p2 (Rs.mono (fun v q4 h4 tk4 t4 F4 N4=>q4 t4 h4 tk4 F4 N4) q3))
   |item v i=>
    obtain⟨hsub,p,rfl⟩:=hs
    intro h tk F N
    refine Subscript_ (ihV v _ (Rs.mono (fun x q1 t1=>?_) (bin2_h q)) h tk F N)
    refine ihV i _ (Rs.mono (fun y q2 t2 h2 tk2 F2 N2=>?_) q1)
    exact item_ok (s:=C.sg h2 tk2) hsub (Rs.mono (fun v q3 tk3 t3=>q3 t3 h2 tk3 F2 N2) q2)
   |nitem x i=>
    obtain⟨hsub,p',p,rfl⟩:=hs
    intro h tk F N
    replace q:Rs.holds _ (optG _ _ (tb.il.lookup x)):=q
    cases hl:tb.il.lookup x with
    |none=>
     rw[hl] at q
     refine Subscript_ (name_ok ht p' _ (Rs.mono (fun x q1 t1=>?_) (bin2_h q)) h tk F N)
     refine ihV i _ (Rs.mono (fun y q2 t2 h2 tk2 F2 N2=>?_) q1)
     exact item_ok (s:=C.sg h2 tk2) hsub (Rs.mono (fun v q3 tk3 t3=>q3 t3 h2 tk3 F2 N2) q2)
    |some ns=>
     rw[hl] at q
     (refine Uc.ex2 (ht.il _ _ hl) fun a vs=>Uc.an3 fun hm hmem hI=>?_)
     refine Subscript_ (hm.ev p' _ (ihV i _ (Rs.mono (fun y q2 t2 h2 tk2 F2 N2=>?_) (un1_h q))) h tk F N)
     cases y<;>try exact q2.elim
     have q3:=q2.1
     have hk:(ns.length:Int)<=1000000:=Int.ofNat_le.mpr q3.1
     have hz:=Int.lt_of_lt_of_le q3.2.2 (Int.le_trans hk (by decide:(1000000:Int)<=2^63))
     rcases hmem with ⟨n',hmem⟩|hmem
     ·exact item_list_ints (s:=C.sg h2 tk2) (News.isList N2 hmem) hI q3.2.1 q3.2.2 hz (fun t=>q2.2 t h2 tk2 F2 N2) (hsub _ _) fun _=>rfl
     ·exact item_tuple_ints (s:=C.sg h2 tk2) (News.isTup N2 hmem) hI q3.2.1 q3.2.2 hz (fun t=>q2.2 t h2 tk2 F2 N2) (hsub _ _) fun _=>rfl
   |call f x xs=>
    obtain⟨w30q,p,p',rfl⟩:=hs;(refine Uc.ah2 w30q fun px pxs=>?_;clear w30q)
    intro h tk F N
    replace q:Rs.holds _ (optG _ _ (isB (pNm C.env m tb f))):=q
    cases hc:isB (pNm C.env m tb f) with
    |some id=>
     rw[hc] at q
     have hn:=isB_ok hc
     have go:(seqR ((x::xs).map (pV C.env m tb n)) (callB id)).holds (VK C m nw Q)->wpAny C.M C.A (eval (.Call (.Name f p) (x::xs) [] p') C.env) Q C.E (C.sg h tk):=fun q=>by
      refine Call_ (nm_ok ht hn p _ (fun h1 tk1 F1 N1=>?_) h tk F N)
      refine PyProof.Rows.callWith_builtin1 ?_ (star1 px) (starAll pxs)
      refine seq_ok (xs:=x::xs) ihV (by rw[List.all_cons,px,pxs];rfl) q _ (fun ps vs hv h2 h3 tk3 F3 N3=>?_) h1 tk1 F1 N1
      exact callB_ok (s:=C.sg h3 tk3) C.hh F3 N3 hv (Rs.mono (fun v q4 h4 tk4 t4 F4 N4=>q4 t4 h4 tk4 F4 N4) h2)
     replace q:(lenR _ (lenI tb x) (id=="len"&&xs.isEmpty)).holds _:=q
     cases he:(id=="len"&&xs.isEmpty) with
     |false=>rw[he] at q;exact go q
     |true=>
     rw[he] at q
     cases hl:lenI tb x with
     |none=>rw[hl] at q;exact go q
     |some ns=>
      rw[hl] at q
      obtain⟨hid,hxs⟩:=Bool.and_eq_true_iff.mp he
      have hid:=eq_of_beq hid
      subst hid
      cases xs with
      |cons _ _=>cases hxs
      |nil=>
       cases x<;>try(cases hl;done)
       (refine Uc.ex2 (ht.il _ _ hl) fun a vs=>Uc.an3 fun hm hmem hI=>?_)
       refine Call_ (nm_ok ht hn p _ (fun h0 tk0 F0 N0=>?_) h tk F N)
       refine PyProof.Rows.callWith_builtin1 (args_cons (hm.ev _ _ (fun h1 tk1 F1 N1=>args_nil ?_) h0 tk0 F0 N0) rfl) rfl rfl
       have hb:ns.length<=16384:=q.1
       rcases hmem with ⟨n',hmem⟩|hmem
       ·exact len_ints_fit (s:=C.sg h1 tk1) (News.isList N1 hmem) hI (Nat.lt_of_le_of_lt hb (by decide)) (q.2 _ h1 _ F1 N1)
       ·exact kun_lenT (s:=C.sg h1 tk1) (News.isTup N1 hmem) (by rw[List.size_toArray,intsAre_len hI]) (Int.ofNat_le.mpr hb) (q.2 _ h1 _ F1 N1)
    |none=>
     rw[hc] at q
     replace q:(rFo (tb.fo.lookup f) _).holds _:=q
     cases hf:tb.fo.lookup f with
     |none=>rw[hf] at q;exact q.elim
     |some r=>
      rw[hf] at q
      refine ht.fo f r hf m nw x xs p p' Q px pxs (fun h1 tk1 F1 N1=>?_) h tk F N
      refine seq_ok (xs:=x::xs) ihV (by rw[List.all_cons,px,pxs];rfl) q _ (fun ps vs hv h2 h3 tk3 F3 N3=>?_) h1 tk1 F1 N1
      exact⟨ps,hv,h2,h3,tk3,rfl,F3,N3⟩
   |attr x a=>
    obtain⟨p,p',rfl⟩:=hs
    replace q:(rName (tb.ats.lookup (x,a))).holds _:=q
    cases hl:tb.ats.lookup (x,a) with
    |none=>rw[hl] at q;exact q.elim
    |some v=>
     rw[hl] at q
     obtain⟨t,e⟩:=toPV_den v
     obtain⟨d,hm,hA⟩:=ht.ats x a v hl
     intro h tk F N
     exact Attribute_Name_ (hm.ev p _ (hA m nw (fun _ z=>z) Q (e▸q t)) h tk F N)
  ·replace q:(pBb (pV C.env m tb n) (pB C.env m tb n) (pV C.env m tb n e) (bview e)).holds (BK C m nw Q):=q
   have hs:=bview_spec e
   generalize bview e=ev at q hs
   cases ev with
   |bad=>exact q.elim
   |cmp l op r=>
    obtain⟨hm,p,rfl⟩:=hs
    intro h tk F N
    refine wpAny_isTrue_Compare1 (ihV l _ (Rs.mono (fun v q1 t1=>?_) (bin2B_h q)) h tk F N) hm
    refine ihV r _ (Rs.mono (fun v2 q2 t2 h2 tk2 F2 N2=>?_) q1)
    exact cmp_ok (s:=C.sg h2 tk2) (Bs.mono (fun P q3 b hb=>wpAny_truthy_bool (q3 b hb h2 tk2 F2 N2)) q2)
   |one x=>
    obtain⟨op,p,rfl⟩:=hs
    intro h tk F N
    cases op with
    |And=>
     refine isTrue_and (ihB x _ (Bs.mono (fun P q1 c hc h1 tk1 F1 N1=>?_) q) h tk F N)
     cases c with
     |true=>exact isTrue_and_nil (q1 true hc h1 tk1 F1 N1)
     |false=>exact q1 false hc h1 tk1 F1 N1
    |Or=>
     refine isTrue_or (ihB x _ (Bs.mono (fun P q1 c hc h1 tk1 F1 N1=>?_) q) h tk F N)
     cases c with
     |true=>exact q1 true hc h1 tk1 F1 N1
     |false=>exact isTrue_or_nil (q1 false hc h1 tk1 F1 N1)
   |and x r=>
    (refine Uc.ex3 hs fun y ys p=>Uc.an2 fun e1q e2q=>?_;clear hs;subst e1q;subst e2q)
    intro h tk F N
    refine isTrue_and (ihB x _ (Bs.mono (fun P q1 c hc=>?_) (andB_h q)) h tk F N)
    cases c with
    |true=>exact ihB (.BoolOp .And (y::ys) p) _ (Bs.mono (fun P2 q2 b hb=>q2 b (hb.trans ⟨fun z=>⟨hc.mp rfl,z⟩,And.right⟩)) (q1.1 (hc.mp rfl)))
    |false=>
     obtain⟨P2,q2⟩:=q1.2
     exact q2 false ⟨fun z=>absurd z (by decide),fun z=>absurd (hc.mpr z.1) (by decide)⟩
   |or x r=>
    (refine Uc.ex3 hs fun y ys p=>Uc.an2 fun e1q e2q=>?_;clear hs;subst e1q;subst e2q)
    intro h tk F N
    refine isTrue_or (ihB x _ (Bs.mono (fun P q1 c hc=>?_) (orB_h q)) h tk F N)
    cases c with
    |false=>exact ihB (.BoolOp .Or (y::ys) p) _ (Bs.mono (fun P2 q2 b hb=>q2 b (hb.trans ⟨.inr,fun z=>z.resolve_left fun zp=>Bool.false_ne_true (hc.mpr zp)⟩)) (q1.1 fun zp=>Bool.false_ne_true (hc.mpr zp)))
    |true=>
     obtain⟨P2,q2⟩:=q1.2
     exact q2 true ⟨fun _=>.inl (hc.mp rfl),fun _=>rfl⟩
   |not x=>
    obtain⟨p,rfl⟩:=hs
    intro h tk F N
    refine isTrue_not (ihB x _ (Bs.mono (fun P q1 c hc=>?_) (notB_h q)) h tk F N)
    refine q1 _ ?_
    cases c with
    |true=>exact⟨fun z=>absurd z (by decide),fun z=>absurd (hc.mp rfl) z⟩
    |false=>exact⟨fun _ z=>Bool.false_ne_true (hc.mpr z),fun _=>rfl⟩
   |plain=>
    intro h tk F N
    refine isTrue_plain (ihV e _ (Rs.mono (fun v q1 t1 h1 tk1 F1 N1=>?_) (truB_h q)) h tk F N) (hs _ _)
    exact tru_ok (s:=C.sg h1 tk1) (Bs.mono (fun P q3 b tk3 hb=>q3 b hb h1 tk3 F1 N1) q1)
  ·intro h tk F N
   cases o with
   |none=>
    exact evalPart_none_step (q _ rfl h tk F N)
   |some e=>
    replace q:(pHb (pV C.env m tb n) (pV C.env m tb n e) (hview e)).holds (HK C m nw Q):=q
    have hs:=hview_spec e
    generalize hview e=ev at q hs
    cases ev with
    |or x y=>
     obtain⟨p,rfl⟩:=hs
     obtain⟨v2,e2,q'⟩:=orN_h q
     refine evalPart_some_step (BoolOp_or (ihV x _ (Rs.mono (fun v q1 t1 h1 tk1 F1 N1=>?_) q') h tk F N))
     cases v<;>cases v2<;>try exact q1.elim
     refine truthy_int ?_
     by_cases h0:i=0
     ·subst h0
      rw[if_neg (by decide)]
      exact BoolOp_one (ihV y _ (by rw[e2];exact fun t=>q1 _ rfl) h1 tk1 F1 N1)
     ·rw[if_pos (by simpa using h0)]
      exact q1 _ (by rw[if_neg h0];exact⟨_,rfl⟩) h1 tk1 F1 N1
    |plain=>
     refine evalPart_some_step (ihV e _ (Rs.mono (fun v q1 t1=>?_) (bdR_h q)) h tk F N)
     cases v<;>try exact q1.elim
     ·exact q1 _ ⟨_,rfl⟩
     ·exact q1 _ rfl
noncomputable def Cx.post (C:Cx):List (List Stmt)->Flow->Shared->Prop
 | []=>C.Q
 |r::ks=>stP (model C.prog C.w) C.A r C.env (C.post ks) C.E
noncomputable abbrev Cx.pV (C:Cx)(m:Str->Option Value)(tb:Tb)(e:Expr):Rs:=Uc.pV C.env m tb 30 e
noncomputable abbrev Cx.pB (C:Cx)(m:Str->Option Value)(tb:Tb)(e:Expr):Bs:=Uc.pB C.env m tb 30 e
noncomputable def J (C:Cx)(m:Str->Option Value)(nw:Led)(st:List Stmt)(ks:List (List Stmt)):Prop:=
 At C m nw fun s=>wpAny C.M C.A (execs st C.env) (C.post ks) C.E s
theorem isP {C:Cx}{ks:List (List Stmt)}{f:Flow}{s:Shared}(h:C.post ks f s):C.post ks f s:=h
theorem Cx.post_out {C:Cx}{f:Flow}{s':Shared}(hf:f≠.next)(q:C.Q f s'):∀ks,C.post ks f s'
 | []=>q
 |r::ks=>by
  have:=Cx.post_out hf q ks
  show stP _ _ _ _ _ _ f s'
  cases f with
  |next=>exact absurd rfl hf
  |ret v=>exact this
  |brk=>exact this
  |cont=>exact this
theorem Cx.post_ret {C:Cx}{v:Value}{s':Shared}(q:C.Q (.ret v) s')(ks:List (List Stmt)):C.post ks (.ret v) s':=C.post_out (by intro x;cases x) q ks
section
variable {C:Cx}{m:Str->Option Value}{nw:Led}{tb:Tb}{rest:List Stmt}{ks:List (List Stmt)}{pos:Pos}
theorem J.start {prog:Program}{w:World}{A:Around}{E:Value->Shared->Prop}{h₀:Heap}{L:Addr}{s:Shared}{gl:List (Str×Value)}{cn:Str}{cs:Scope}{a:Addr}{cd:Value}{cl:List (Str×Addr)}
  {Q:Flow->Shared->Prop} {st:List Stmt} (hG:GlOk prog w h₀ gl) (F:Fr h₀ L s.heap m) (N:News h₀ L s.heap nw) (hk:cs.kind=.function) (hh:A.handled=none)
  (h:let C:Cx:=⟨prog,w,A,E,h₀,L,s,gl,cn,cs,a,cd,cl,Q,hk,hh,hG⟩;J C m nw st []):wpAny (model prog w) A (execs st (envX cn cs L a cd cl)) Q E s:=
 h s.heap s.toks F N
theorem J.gen {st:List Stmt}(l:Nms)(hk:Has m l)(h:∀u,J C (fm u l) nw st ks):J C m nw st ks:=by
 have:=h m
 rwa [fm_eq hk] at this
theorem J.nil {r:List Stmt}(h:J C m nw r ks):J C m nw [] (r::ks):=fun h' tk F N=>wpAny_execs_nil (h h' tk F N)
theorem J.done (q:At C m nw (C.Q .next)):J C m nw [] []:=fun h tk F N=>wpAny_execs_nil (q h tk F N)
theorem J.step {st:Stmt}(h:At C m nw fun s=>wpAny C.M C.A (exec st C.env) (C.post (rest::ks)) C.E s):J C m nw (st::rest) ks:=
 fun h' tk F N=>wpAny_execs_cons (h h' tk F N)
theorem J.next {h:Heap}{tk:Nat}(q:J C m nw rest ks)(F:Fr C.h₀ C.L h m)(N:News C.h₀ C.L h nw):C.post (rest::ks) .next (C.sg h tk):=q h tk F N
section
variable {e:Expr}{v:PV}{c:Prop}{x:Str}{p:Pos}
theorem ev_ok {Q:Value->Shared->Prop}(ht:TbOk C m nw tb)(hp:C.pV m tb e=.ok v)(q:∀t,At C m nw (Q (v.den t))):At C m nw fun s=>wpAny C.M C.A (eval e C.env) Q C.E s:=
 (pv_all ht 30).1 e Q (by show(C.pV m tb e).holds _;rw[hp];exact q)
theorem ev_c {Q:Value->Shared->Prop}(ht:TbOk C m nw tb)(hp:C.pV m tb e=.cond c v)(hc:c)(q:∀t,At C m nw (Q (v.den t))):At C m nw fun s=>wpAny C.M C.A (eval e C.env) Q C.E s:=
 (pv_all ht 30).1 e Q (by show(C.pV m tb e).holds _;rw[hp];exact⟨hc,q⟩)
theorem J.ret (ht:TbOk C m nw tb)(hp:C.pV m tb e=.ok v)(q:∀t,At C m nw (C.Q (.ret (v.den t)))):J C m nw (.Return (some e) pos::rest) ks:=
 J.step fun h tk F N=>wpAny_Return_some (ev_ok ht hp (fun t h' tk' F' N'=>C.post_ret (q t h' tk' F' N') _) h tk F N)
theorem J.ret_c (ht:TbOk C m nw tb)(hp:C.pV m tb e=.cond c v)(hc:c)(q:∀t,At C m nw (C.Q (.ret (v.den t)))):J C m nw (.Return (some e) pos::rest) ks:=
 J.step fun h tk F N=>wpAny_Return_some (ev_c ht hp hc (fun t h' tk' F' N'=>C.post_ret (q t h' tk' F' N') _) h tk F N)
theorem J.brk (q:At C m nw (C.Q .brk)):J C m nw (.Break pos::rest) ks:=
 J.step fun h tk F N=>wpAny_Break (C.post_out (by intro x;cases x) (q h tk F N) _)
noncomputable abbrev up (m:Str->Option Value)(x:Str)(v:Value):Str->Option Value:=fun y=>if y=x then some v else m y
theorem J.store {v:Value}{h:Heap}{tk:Nat}(hx:C.env.kindOf x=some .local)(F:Fr C.h₀ C.L h m)(N:News C.h₀ C.L h nw)(q:J C (up m x v) nw rest ks):
  wpAny C.M C.A (storeName C.env x v) (fun _=>C.post (rest::ks) .next) C.E (C.sg h tk):=
 storeX_L (s:=C.sg h tk) F N (fun h' F' N'=>q h' _ F' N') C.hk hx
theorem J.asg (ht:TbOk C m nw tb)(hp:C.pV m tb e=.ok v)(hx:C.env.kindOf x=some .local)(hs:swapsWith e (some (.Name x p)) pos.line C.env=pure false)
  (q:∀t,J C (up m x (v.den t)) nw rest ks):J C m nw (.Assign [.Name x p] e pos::rest) ks:=
 J.step fun h tk F N=>wpAny_Assign_Name (ev_ok ht hp (fun t h' tk' F' N'=>J.store (tk:=tk') hx F' N' (q t)) h tk F N) hs
theorem J.asg_c (ht:TbOk C m nw tb)(hp:C.pV m tb e=.cond c v)(hx:C.env.kindOf x=some .local)(hs:swapsWith e (some (.Name x p)) pos.line C.env=pure false)
  (hc:c) (q:∀t,J C (up m x (v.den t)) nw rest ks):J C m nw (.Assign [.Name x p] e pos::rest) ks:=
 J.step fun h tk F N=>wpAny_Assign_Name (ev_c ht hp hc (fun t h' tk' F' N'=>J.store (tk:=tk') hx F' N' (q t)) h tk F N) hs
theorem J.asgD {x':Str}{p':Pos}(ht:TbOk C m nw tb)(hp:(C.pV m tb e).holds fun v=>∀t,J C (up (up m x (v.den t)) x' (v.den t)) nw rest ks)(hx:C.env.kindOf x=some .local)(hx':C.env.kindOf x'=some .local):
  J C m nw (.Assign [.Name x p,.Name x' p'] e pos::rest) ks:=by
 refine J.step fun h tk F N=>wpAny_Assign_two ((pv_all ht 30).1 e _ (Rs.mono (fun v q t h1 tk1 F1 N1=>?_) hp) h tk F N)
 refine assign_Name (storeX_L (s:=C.sg h1 tk1) F1 N1 (fun h2 F2 N2=>?_) C.hk hx)
 exact assign_Name (storeX_L (s:=C.sg h2 (tk1+1)) F2 N2 (fun h3 F3 N3=>q t h3 _ F3 N3) C.hk hx')
end
section
variable {t:Expr}{b o:List Stmt}{p c:Prop}
theorem ite_go (ht:TbOk C m nw tb)(h:(C.pB m tb t).holds fun p=>(p->J C m nw b (rest::ks))/\(¬ p->J C m nw o (rest::ks))):J C m nw (.If t b o pos::rest) ks:=by
 refine J.step fun h0 tk F N=>wpAny_If ((pv_all ht 30).2.1 t _ (Bs.mono (fun P q c hc h' tk' F' N'=>?_) h) h0 tk F N)
 cases c with
 |true=>rw[if_pos rfl];exact q.1 (hc.mp rfl) h' tk' F' N'
 |false=>rw[if_neg (by decide)];exact q.2 (fun z=>Bool.false_ne_true (hc.mpr z)) h' tk' F' N'
theorem J.ite (ht:TbOk C m nw tb)(hp:C.pB m tb t=.ok p)(h1:p->J C m nw b (rest::ks))(h2:¬ p->J C m nw o (rest::ks)):J C m nw (.If t b o pos::rest) ks:=ite_go ht (by rw[hp];exact⟨h1,h2⟩)
theorem J.ite_c (ht:TbOk C m nw tb)(hp:C.pB m tb t=.cond c p)(hc:c)(h1:p->J C m nw b (rest::ks))(h2:¬ p->J C m nw o (rest::ks)):J C m nw (.If t b o pos::rest) ks:=ite_go ht (by rw[hp];exact⟨hc,h1,h2⟩)
end
noncomputable def augR (op:Operator)(m:Str->Option Value)(x:Str)(r:Rs):Rs:=match m x with
 |some v=>(match op with
  | .Add=>un1 (fun y=>pBin .Add (toPV v) y) r
  | .Sub=>un1 (fun y=>pBin .Sub (toPV v) y) r
  |_=>.bad)
 |none=>.bad
theorem aug_all {op:Operator}{x:Str}{e:Expr}{p:Pos}(ht:TbOk C m nw tb)(hx:C.env.kindOf x=some .local)(h:(augR op m x (C.pV m tb e)).holds fun v=>∀t,J C (up m x (v.den t)) nw rest ks):
  J C m nw (.AugAssign (.Name x p) op e pos::rest) ks:=by
 refine J.step fun h0 tk F N=>wpAny_AugAssign_Name ?_
 unfold augR at h
 cases hm:m x with
 |none=>rw[hm] at h;exact h.elim
 |some v=>
  rw[hm] at h
  obtain⟨t,et⟩:=toPV_den v
  have ho:op=.Add∨op=.Sub:=by cases op<;>first|exact .inl rfl|exact .inr rfl|exact h.elim
  have h':(un1 (fun y=>pBin op (toPV v) y) (C.pV m tb e)).holds fun v=>∀t,J C (up m x (v.den t)) nw rest ks:=by rcases ho with rfl|rfl<;>exact h
  refine wpAny_loadName_local C.hk hx F.ns hm ?_
  refine(pv_all ht 30).1 e _ (Rs.mono (fun y q1 t1 h1 tk1 F1 N1=>?_) (un1_h h')) _ _ F N
  rw[<-et]
  exact iop_ok (s:=C.sg h1 tk1) ho (Rs.mono (fun r q2 tk2 t2=>J.store (tk:=tk2) hx F1 N1 (q2 t2)) q1)
theorem J.aug {op:Operator}{x:Str}{e:Expr}{p:Pos}{v:PV}(ht:TbOk C m nw tb)(hp:augR op m x (C.pV m tb e)=.ok v)(hx:C.env.kindOf x=some .local)(q:∀t,J C (up m x (v.den t)) nw rest ks):
  J C m nw (.AugAssign (.Name x p) op e pos::rest) ks:=aug_all ht hx (by rw[hp];exact q)
noncomputable abbrev Cx.setQ (C:Cx)(Q:Flow->Shared->Prop):Cx:={ C with Q:=Q }
noncomputable def whQ {σ:Type}(C:Cx)(led:σ->Led)(ps:σ->Nms)(P:σ->Prop)(μ:σ->Nat)(c:σ)(f:Flow)(s':Shared):Prop:=
 f=.next/\∃c' m' h' tk',s'=C.sg h' tk'/\Fr C.h₀ C.L h' m'/\News C.h₀ C.L h' (led c')/\Has m' (ps c')/\P c'/\μ c'<μ c
theorem J.turn {σ:Type}{led:σ->Led}{ps:σ->Nms}{P:σ->Prop}{μ:σ->Nat}{c:σ}(c':σ)(hk:Has m (ps c'))(hp:P c')(hm:μ c'<μ c)(hs:∀p∈led c',p∈nw):J (C.setQ (whQ C led ps P μ c)) m nw [] []:=
 J.done fun h tk F N=>⟨rfl,c',m,h,tk,rfl,F,News.sub N hs,hk,hp,hm⟩
theorem J.while {σ:Type}{test:Expr}{body:List Stmt}(led:σ->Led)(ps:σ->Nms)(P:σ->Prop)(μ:σ->Nat)(c₀:σ)(tb:σ->Tb)(ht:∀c u,P c->TbOk C (fm u (ps c)) (led c) (tb c))(hE:PassesOwn C.M C.A C.env C.E)(hk:Has m (ps c₀))(hp:P c₀)
  (turn:∀(c:σ) (u:Str->Option Value),P c->(C.pB (fm u (ps c)) (tb c) test).holds fun p=>(p->let C':=C.setQ (whQ C led ps P μ c);J C' (fm u (ps c)) (led c) body [])/\(¬ p->J C (fm u (ps c)) (led c) rest ks))
  (hn:∀p∈led c₀,p∈nw):
  J C m nw (.While test body [] pos::rest) ks:=by
 refine J.step fun h tk F N=>?_
 refine While_inv (s:=C.sg h tk) (L:=C.L) (fun n m nx=>∃c:σ,nx=led c/\μ c=n/\Has m (ps c)/\P c) F (News.sub N hn) ⟨c₀,rfl,rfl,hk,hp⟩ ?_ hE
 intro n m₁ nx h1 tk1 F₁ N₁ w31q;(refine Uc.ex1 w31q fun c=>Uc.an4 fun e1q e2q hk1 hp1=>?_;clear w31q;subst e1q;subst e2q)
 have T:=turn c m₁ hp1
 have ht':=ht c m₁ hp1
 rw[fm_eq hk1] at T ht'
 refine(pv_all ht' 30).2.1 test _ (Bs.mono (fun p q b hb h2 tk2 F2 N2=>?_) T) h1 tk1 F₁ N₁
 cases b with
 |false=>
  rw[if_neg (by decide)]
  exact q.2 (fun z=>Bool.false_ne_true (hb.mpr z)) h2 tk2 F2 N2
 |true=>
  rw[if_pos rfl]
  refine wpAny_mono (q.1 (hb.mp rfl) h2 tk2 F2 N2) (fun f s₃ r=>?_) fun _ _ x=>x
  (refine Uc.ah2 r fun e1q q0q=>Uc.ex4 q0q fun c' m' h' tk'=>Uc.an6 fun e2q F' N' hk' hp' hm'=>?_;clear r q0q;subst e1q;subst e2q)
  exact⟨rfl,h',tk',m',led c',μ c',rfl,F',N',hm',c',rfl,rfl,hk',hp'⟩
theorem Bs.holds_c {r:Bs}{c p:Prop}{k:Prop->Prop}(h:r=.cond c p)(hc:c)(hk:k p):r.holds k:=by rw[h];exact⟨hc,hk⟩
theorem Bs.holds_ok {r:Bs}{p:Prop}{k:Prop->Prop}(h:r=.ok p)(hk:k p):r.holds k:=by rw[h];exact hk
theorem Rs.holds_c {r:Rs}{c:Prop}{v:PV}{k:PV->Prop}(h:r=.cond c v)(hc:c)(hk:k v):r.holds k:=by rw[h];exact⟨hc,hk⟩
theorem Rs.holds_ok {r:Rs}{v:PV}{k:PV->Prop}(h:r=.ok v)(hk:k v):r.holds k:=by rw[h];exact hk
theorem J.asg2 {x y:Str}{e1 e2:Expr}{px py:Pos}{k k2:Nat}{tp tp2:Pos}(ht:TbOk C m nw tb)(h1:plainArg e1=true)(h2:plainArg e2=true)
  (hw:swappedStores [.Tuple [.Name x px,.Name y py] k tp] (.Tuple [e1,e2] k2 tp2) C.env=pure (some [x,y])) (hx:C.env.kindOf x=some .local) (hy:C.env.kindOf y=some .local)
  (h:(C.pV m tb e1).holds fun v1=>(C.pV m tb e2).holds fun v2=>∀t u,J C (up (up m y (v2.den u)) x (v1.den t)) nw rest ks):
  J C m nw (.Assign [.Tuple [.Name x px,.Name y py] k tp] (.Tuple [e1,e2] k2 tp2) pos::rest) ks:=by
 refine J.step fun h0 tk F N=>Assign_Tuple_swapped ?_ rfl hw
 refine Tuple_ (args_cons ?_ (star1 h1))
 refine(pv_all ht 30).1 e1 _ (Rs.mono (fun v1 q1 t h3 tk3 F3 N3=>?_) h) _ _ F N
 refine args_cons ?_ (star1 h2)
 refine(pv_all ht 30).1 e2 _ (Rs.mono (fun v2 q2 u h4 tk4 F4 N4=>?_) q1) _ _ F3 N3
 refine args_nil (newTuple_N (s:=C.sg h4 tk4) F4 N4 fun h5 F5 N5=>?_)
 refine unpackItemsN_ (s:=C.sg h5 tk4) F5 N5 (News.isTup N5 (.head _)) C.hh rfl fun h6 F6 N6=>?_
 have N7:News C.h₀ C.L h6 nw:=News.sub N6 fun p hp=>.tail _ hp
 refine assignInOrder_cons (bindName_ (storeX_L (s:=C.sg h6 tk4) F6 N7 (fun h8 F8 N8=>?_) C.hk hy))
 refine assignInOrder_cons (bindName_ (storeX_L (s:=C.sg h8 (tk4+1)) F8 N8 (fun h9 F9 N9=>?_) C.hk hx))
 exact assignInOrder_nil (q2 t u h9 _ F9 N9)
theorem J.tn {σ:Type}{led:σ->Led}{ps:σ->Nms}{R:σ->Prop}{c:σ}{I:Addr}{o:Obj}{Q:Flow->Shared->Prop}(c':σ)(hk:Has m (ps c'))(hp:R c')
  (ha:∀p∈led c',p.1∈(led c).map (·.1)∨isIt p.2=false) (hs:∀p∈led c'++[(I,o)],p∈nw):
  J (C.setQ (Turn C.h₀ C.L led ps R c I o C.s Q)) m nw [] []:=J.done fun _ _ F N=>Turn.next (Q:=Q) c' F N hs ha hk hp
noncomputable def RangeIs (C:Cx)(m:Str->Option Value)(nw:Led)(it:Expr)(a b c:Int):Prop:=
 ∀Q:Value->Shared->Prop,(∀r t u v,At C m nw fun s=>IsRange s.heap r a b c t u v->Q (.ref r) s)->At C m nw fun s=>wpAny C.M C.A (eval it C.env) Q C.E s
theorem range1 {x:Str}{p p':Pos}{e:Expr}{b:Int}(ht:TbOk C m nw tb)(hx:pNm C.env m tb x=some (.type "range"))(he:plainArg e=true)(hb:(C.pV m tb e).holds fun v=>v=.int b):RangeIs C m nw (.Call (.Name x p) [e] [] p') 0 b 1:=by
 intro Q q h tk F N
 refine Call_ (nm_ok ht hx p _ (fun h0 tk0 F0 N0=>Pv.callWith_type1 (args_cons ?_ (star1 he)) (star1 he)) h tk F N)
 refine(pv_all ht 30).1 e _ (Rs.mono (fun v e1 t h1 tk1 F1 N1=>?_) hb) _ _ F0 N0
 subst e1
 exact args_nil (range1_rows (s:=C.sg h1 tk1) F1 N1 fun h2 tk2 t1 u1 v1 hr F2 N2 _=>q _ _ _ _ h2 tk2 F2 N2 hr)
theorem range3 {x:Str}{p p':Pos}{e e' e3:Expr}{a b c:Int}(ht:TbOk C m nw tb)(hx:pNm C.env m tb x=some (.type "range"))(he:plainArg e=true)(he':plainArg e'=true)(he3:plainArg e3=true)(hc0:1<=c.natAbs/\c.natAbs<=1000000)
  (ha:(C.pV m tb e).holds fun v=>v=.int a) (hb:(C.pV m tb e').holds fun v=>v=.int b) (hc:(C.pV m tb e3).holds fun v=>v=.int c):RangeIs C m nw (.Call (.Name x p) [e,e',e3] [] p') a b c:=by
 intro Q q h tk F N
 refine Call_ (nm_ok ht hx p _ (fun h0 tk0 F0 N0=>Pv.callWith_type1 (args_cons ?_ (star1 he)) (star1 he) (by rw[star1 he',star1 he3];rfl)) h tk F N)
 refine(pv_all ht 30).1 e _ (Rs.mono (fun v e1 t h1 tk1 F1 N1=>?_) ha) _ _ F0 N0
 subst e1
 refine args_cons ?_ (star1 he')
 refine(pv_all ht 30).1 e' _ (Rs.mono (fun v e2 t3 h3 tk3 F3 N3=>?_) hb) _ _ F1 N1
 subst e2
 refine args_cons ?_ (star1 he3)
 refine(pv_all ht 30).1 e3 _ (Rs.mono (fun v e4 t5 h5 tk5 F5 N5=>?_) hc) _ _ F3 N3
 subst e4
 exact args_nil (range3_rows (s:=C.sg h5 tk5) F5 N5 (by omega) (fun h2 tk2 t1 u1 v1 hr F2 N2 _=>q _ _ _ _ h2 tk2 F2 N2 hr) (.inl (PyProof.noPylong_small (by omega))))
theorem forR {σ:Type}{x:Str}{px:Pos}{it:Expr}{body:List Stmt}{a b c:Int}(P:Flow->Shared->Prop)(n:Nat)(led:σ->Led)(ps:σ->Nms)(R:Nat->σ->Prop)(c₀:σ)(hit:RangeIs C m nw it a b c)(hsm:Builtin.Range.small a b c=true)(hn:Builtin.Range.rangeSize a b c=(n:Int))
  (hE:PassesOwn C.M C.A C.env C.E) (hx:C.env.kindOf x=some .local) (hs:∀y,foldedSetIterable it C.env y=pure y) (hk:Has m (ps c₀)) (hR:R 0 c₀)
  (turn:∀i t (c':σ) (u:Str->Option Value) I o,i<n->R i c'->(∀p∈led c',p.1≠I)->isIt o=true->let C':=C.setQ (Turn C.h₀ C.L led ps (R (i+1)) c' I o C.s P);J C' (up (fm u (ps c')) x (.int (a+(i:Int)*c) t)) (led c'++[(I,o)]) body [])
  (done:∀(c':σ) (u:Str->Option Value),R n c'->At C (fm u (ps c')) (led c') (P .next)) (hl:∀p∈led c₀,p∈nw):At C m nw fun s=>wpAny C.M C.A (exec (.For (.Name x px) it body [] pos) C.env) P C.E s:=by
 refine fun h tk F N=>For_invV C.h₀ hx (by rw[show C.env.scope.kind=.function from C.hk];rfl) ?_ hs hE
 refine hit _ (fun r t u v h1 tk1 F1 N1 hr=>?_) h tk F N
 refine iter_range (s:=C.sg h1 tk1) led ps R c₀ C.hh hr hsm hn F1 (News.sub N1 hl) hk hR (fun i t' c' u' h' tk' I o hi hR' hne hit' F' N' Z hZ=>?_) fun c' u' h' tk' hR' F' N'=>done c' u' hR' h' tk' F' N'
 exact wpAny_mono (turn i t' c' u' I o hi hR' hne hit' h' tk' F' N') (fun f s' q=>hZ f s' q) fun _ _ e=>e
theorem J.forR {σ:Type}{x:Str}{px:Pos}{it:Expr}{body:List Stmt}{a b c:Int}(n:Nat)(led:σ->Led)(ps:σ->Nms)(R:Nat->σ->Prop)(c₀:σ)(hit:RangeIs C m nw it a b c)(hsm:Builtin.Range.small a b c=true)(hn:Builtin.Range.rangeSize a b c=(n:Int))
  (hE:PassesOwn C.M C.A C.env C.E) (hx:C.env.kindOf x=some .local) (hs:∀y,foldedSetIterable it C.env y=pure y) (hk:Has m (ps c₀)) (hR:R 0 c₀)
  (turn:∀i t (c':σ) (u:Str->Option Value) I o,i<n->R i c'->(∀p∈led c',p.1≠I)->isIt o=true->let C':=C.setQ (Turn C.h₀ C.L led ps (R (i+1)) c' I o C.s (C.post (rest::ks)));J C' (up (fm u (ps c')) x (.int (a+(i:Int)*c) t)) (led c'++[(I,o)]) body [])
  (done:∀(c':σ) (u:Str->Option Value),R n c'->J C (fm u (ps c')) (led c') rest ks) (hl:∀p∈led c₀,p∈nw):J C m nw (.For (.Name x px) it body [] pos::rest) ks:=
 J.step (Uc.forR _ n led ps R c₀ hit hsm hn hE hx hs hk hR turn done hl)
theorem TbOk.up {x:Str}{v:Value}(ht:TbOk C m nw tb)(h:((tb.il.all fun p=>decide (p.1≠x))&&(tb.ats.all fun p=>decide (p.1.1≠x))&&(tb.nm.all fun p=>decide (p.1≠x)))=true:=by rfl):TbOk C (Uc.up m x v) nw tb:=by
 obtain⟨h12,h3⟩:=Bool.and_eq_true_iff.mp h
 obtain⟨h1,h2⟩:=Bool.and_eq_true_iff.mp h12
 refine⟨ht.gl,fun y ns hl=>?_,fun y a u hl=>?_,ht.fo,fun y u hl=>?_⟩
 ·obtain⟨a,vs,hm,r⟩:=ht.il y ns hl
  have:y≠x:=of_decide_eq_true (List.all_eq_true.mp h1 (y,ns) (lookup_in hl))
  exact⟨a,vs,hm.up (if_neg this) fun _ z=>z,r⟩
 ·obtain⟨d,hm,r⟩:=ht.ats y a u hl
  have:y≠x:=of_decide_eq_true (List.all_eq_true.mp h2 ((y,a),u) (lookup_in hl))
  exact⟨d,hm.up (if_neg this) fun _ z=>z,r⟩
 ·have:y≠x:=of_decide_eq_true (List.all_eq_true.mp h3 (y,u) (lookup_in hl))
  exact(ht.nm y u hl).up (if_neg this) fun _ z=>z
theorem TbOk.addI {x:Str}{ns:List Int}{a:Addr}{vs:List Value}(ht:TbOk C m nw tb)(hm:NmIs C m nw x (.ref a))(hmem:SeqIn nw a vs)(hI:IntsAre vs ns):TbOk C m nw { tb with il:=(x,ns)::tb.il }:=by
 refine⟨ht.gl,fun y ns' hl=>?_,ht.ats,ht.fo,ht.nm⟩
 rw[List.lookup_cons] at hl
 split at hl
 ·rename (_==_)=true=>e
  cases hl
  rw[eq_of_beq e]
  exact⟨a,vs,hm,hmem,hI⟩
 ·exact ht.il y ns' hl
theorem TbOk.addF {f:Str}{r:List PV->Rs}(ht:TbOk C m nw tb)(hf:FnOk C f r):TbOk C m nw { tb with fo:=(f,r)::tb.fo }:=by
 refine⟨ht.gl,ht.il,ht.ats,fun g r' hl=>?_,ht.nm⟩
 rw[List.lookup_cons] at hl
 split at hl
 ·rename (_==_)=true=>e
  cases hl
  rw[eq_of_beq e]
  exact hf
 ·exact ht.fo g r' hl
theorem J.tab {st:List Stmt}(ht:TbOk C m nw tb)(h:TbOk C m nw tb->J C m nw st ks):J C m nw st ks:=h ht
theorem J.seti {x:Str}{e i:Expr}{p p2:Pos}{D:Addr}{vs:List Value}{n k:Nat}{v:Int}(ht:TbOk C m ((D,listOf vs.toArray n)::nw) tb)(he:(C.pV m tb e).holds fun z=>z=.int v)(hx:pNm C.env m tb x=some (.ref D))
  (hi:(C.pV m tb i).holds fun z=>z=.int k) (hk:k<vs.length/\k<100000000) (hne:∀p∈nw,p.1≠D) (hs:swapsWith e (some (.Subscript (.Name x p) i p2)) pos.line C.env=pure false)
  (q:∀t,J C m ((D,listOf (vs.set k (.int v t)).toArray n)::nw) rest ks):J C m ((D,listOf vs.toArray n)::nw) (.Assign [.Subscript (.Name x p) i p2] e pos::rest) ks:=by
 refine J.step fun h tk F N=>wpAny_Assign_Subscript ((pv_all ht 30).1 e _ (Rs.mono (fun z e1 t h1 tk1 F1 N1=>?_) he) _ _ F N) hs
 subst e1
 refine nm_ok ht hx p _ (fun h2 tk2 F2 N2=>?_) _ _ F1 N1
 refine(pv_all ht 30).1 i _ (Rs.mono (fun z e3 t3 h3 tk3 F3 N3=>?_) hi) _ _ F2 N2
 subst e3
 exact set_listH (s:=C.sg h3 tk3) F3 N3 hk.1 hk.2 hne fun h4 F4 N4=>q t h4 tk3 F4 N4
theorem J.lrange {x y:Str}{it:Expr}{a b c:Int}{p p' p2:Pos}(n:Nat)(ht:TbOk C m nw tb)(hy:pNm C.env m tb y=some (.type "list"))(hp:plainArg it=true)(hit:RangeIs C m nw it a b c)(hsm:Builtin.Range.small a b c=true)(hn:Builtin.Range.rangeSize a b c=(n:Int))(hl:n<=2^24)
  (hx:C.env.kindOf x=some .local) (hs:swapsWith (.Call (.Name y p) [it] [] p') (some (.Name x p2)) pos.line C.env=pure false)
  (q:∀l vs cnt,(∀p∈nw,p.1<l)->vs.length=n->IntsAre vs ((List.range n).map fun(i:Nat)=>a+(i:Int)*c)->J C (up m x (.ref l)) ((l,listOf vs.toArray cnt)::nw) rest ks):
  J C m nw (.Assign [.Name x p2] (.Call (.Name y p) [it] [] p') pos::rest) ks:=by
 refine J.step fun h tk F N=>wpAny_Assign_Name (Call_ (nm_ok ht hy p _ (fun h0 tk0 F0 N0=>Pv.callWith_type1 (args_cons ?_ (star1 hp)) (star1 hp)) h tk F N)) hs
 refine hit _ (fun r t u v h1 tk1 F1 N1 hr=>?_) h0 tk0 F0 N0
 refine args_nil (list_range_K (s:=C.sg h1 tk1) C.hh F1 N1 hr hsm hn hl fun h2 tk2 vs cnt l F2 N2 hlt hlen hI=>?_)
 exact J.store (tk:=tk2) hx F2 N2 (q l vs cnt hlt hlen hI)
end
section
variable {C:Cx}{f:Str}{ad:Addr}{r:List PV->Rs}
theorem FnOk.of (hg:C.gl.lookup f=some (.ref ad))(hx:C.env.kindOf f=some .globalImplicit)(hd:(f==ofString "__debug__")=false)(X:(K C.w.params).In C.h₀)(hK:keepIn (K C.w.params) (.ref ad)=true)
  (go:∀(m:Str->Option Value) (nw:Led) ps vs (Q:Value->Shared->Prop),VsDen ps vs->(r ps).holds (VK C m nw Q)->At C m nw fun s=>wpAny C.M C.A (call (.ref ad) vs) Q C.E s):FnOk C f r:=by
 intro m nw x xs p p' Q px pxs hv h tk F N
 refine Call_ (C.hG _ _ hg _ _ _ _ _ _ _ _ _ _ _ _ C.hk hx hd F ?_)
 refine callWith_K X hK (wpAny_mono (hv h tk F N) (fun vs s1 q=>?_) fun _ _ e=>e) (star1 px) (starAll pxs)
 obtain⟨ps,hd,hr,h1,tk1,rfl,F1,N1⟩:=q
 exact⟨X.keeps F1.keep,go m nw ps vs Q hd hr h1 tk1 F1 N1⟩
end
end Uc
end
local macro_rules | `(tactic|walk_at "h")=> `(tactic|first|assumption|exact Uc.TbOk.up ‹_›|exact Uc.TbOk.up (Uc.TbOk.up ‹_›)|exact Uc.TbOk.up (Uc.TbOk.up (Uc.TbOk.up ‹_›))|exact Uc.tb0)
local macro_rules | `(tactic|walk_at "V")=> `(tactic|(walk_at "F";fail_if_success with_reducible refine Uc.isP ?_))
local macro_rules | `(tactic|walk_at "X")=> `(tactic|repeat' (first|walk_at "P"|(walk_at "V";walk_at "T")))
section
namespace Uc
noncomputable def glob:List (Str×Value):=[(ofString "_MOVE_COST",.int 2 2382),(ofString "_CASE_COST",.int 1 2384),(ofString "_MAX_STRING_SIZE",.int 40 2380),
 (ofString "len",.builtin "len"),(ofString "min",.builtin "min"),(ofString "max",.builtin "max"),(ofString "ord",.builtin "ord"),(ofString "chr",.builtin "chr"),(ofString "range",.type "range"),(ofString "list",.type "list"),(ofString "_substitution_cost",.ref 200),(ofString "_levenshtein_distance",.ref 207),(ofString "_law_lead",.ref 234)]
theorem gl_ok {w:World}{p:Program}{loose:List Str}{mean:ExcName->Option Value}{mg mb:Str->Option Value}{h₀:Heap}(X:(K w.params).In h₀)(T:Top p loose mean mg mb h₀):GlOk Challenge.rw_uc0057_01.prog w h₀ glob:=by
 revert X
 k_fill
 intro X x v hl A E L a cn cs cd cl m s Q pos hk hx hd F q
 have T':=topRead_of T
 have hm:=lookup_in hl
 unfold glob at hm
 simp only[List.mem_cons,List.not_mem_nil,or_false,Prod.mk.injEq] at hm
 rcases hm with ⟨rfl,rfl⟩|⟨rfl,rfl⟩|⟨rfl,rfl⟩|⟨rfl,rfl⟩|⟨rfl,rfl⟩|⟨rfl,rfl⟩|⟨rfl,rfl⟩|⟨rfl,rfl⟩|⟨rfl,rfl⟩|⟨rfl,rfl⟩|⟨rfl,rfl⟩|⟨rfl,rfl⟩|⟨rfl,rfl⟩
 ·exact nameX_K F X T' (by k_is) q hk hx hd
 ·exact nameX_K F X T' (by k_is) q hk hx hd
 ·exact nameX_K F X T' (by k_is) q hk hx hd
 ·exact nameX_B F X T' (by k_is) (by boot_fast) (by decide) q hk hx hd
 ·exact nameX_B F X T' (by k_is) (by boot_fast) (by decide) q hk hx hd
 ·exact nameX_B F X T' (by k_is) (by boot_fast) (by decide) q hk hx hd
 ·exact nameX_B F X T' (by k_is) (by boot_fast) (by decide) q hk hx hd
 ·exact nameX_B F X T' (by k_is) (by boot_fast) (by decide) q hk hx hd
 ·exact nameX_B F X T' (by k_is) (by boot_fast) (by decide) q hk hx hd
 ·exact nameX_B F X T' (by k_is) (by boot_fast) (by decide) q hk hx hd
 ·exact nameX_K F X T' (by k_is) q hk hx hd
 ·exact nameX_K F X T' (by k_is) q hk hx hd
 ·exact nameX_K F X T' (by k_is) q hk hx hd
end Uc
end
section
namespace Uc
structure CxOk (C:Cx) (p:Program) (loose:List Str) (mean:ExcName->Option Value) (mg mb:Str->Option Value) (pre:Heap->Prop) (d u:Nat):Prop where
 gl:C.gl=glob
 X:(K C.w.params).In C.h₀
 T:Top p loose mean mg mb C.h₀
 ex:∃dp un gd outer A₀ base,C.prog=Challenge.rw_uc0057_01.prog/\C.A=ktrTop dp un gd C.cn C.cs C.L C.a C.cd C.cl outer/\Below A₀ base outer C.h₀/\pre base/\dp+d<recursionLimit/\un+u<cLine
section
variable {C:Cx}{p:Program}{loose:List Str}{mean:ExcName->Option Value}{mg mb:Str->Option Value}{pre:Heap->Prop}{d u:Nat}
theorem CxOk.call {m:Str->Option Value}{nw:Led}{f:Addr}{d' u':Nat}{vs:List Value}{pre':Heap->Prop}{R:Value->Led->Prop}{Q:Value->Shared->Prop}(ok:CxOk C p loose mean mg mb pre d u)(hc:Con C.w p loose mean mg mb f d' u' vs nw pre' R)
  (q:∀v nw',R v nw'->At C m nw' (Q v)) (hp':∀h,pre h->pre' h) (hd:d'<=d) (hu:u'<=u):At C m nw fun s=>wpAny C.M C.A (call (.ref f) vs) Q C.E s:=by
 obtain⟨dp,un,gd,outer,A₀,base,hp,hA,B,hb,h1,h2⟩:=ok.ex
 intro h tk F N
 have:=hc dp un gd C.cn C.cs C.a C.cd C.cl outer A₀ base C.h₀ C.L m (C.sg h tk) Q C.E B F ok.X N ok.T C.hk (hp' _ hb) (Nat.lt_of_le_of_lt (Nat.add_le_add_left hd dp) h1) (Nat.lt_of_le_of_lt (Nat.add_le_add_left hu un) h2) (fun v n h' tk' hr F' N'=>q v n hr h' tk' F' N')
 unfold Cx.M
 rw[hp,hA]
 exact this
theorem FnOk.con {f:Str}{ad:Addr}{r:List PV->Rs}(ok:CxOk C p loose mean mg mb pre d u)(hg:glob.lookup f=some (.ref ad))(hK:∀P,keepIn (K P) (.ref ad)=true)(hx:C.env.kindOf f=some .globalImplicit)(hd:(f==ofString "__debug__")=false)
  (go:∀(m:Str->Option Value) (nw:Led) ps vs (Q:Value->Shared->Prop),VsDen ps vs->(r ps).holds (VK C m nw Q)->At C m nw fun s=>wpAny C.M C.A (call (.ref ad) vs) Q C.E s):FnOk C f r:=
 FnOk.of (by rw[ok.gl];exact hg) hx hd ok.X (hK _) go
end
theorem keep_sub (P:Params):keepIn (K P) (.ref 200)=true:=rfl
theorem keep_lead (P:Params):keepIn (K P) (.ref 234)=true:=rfl
end Uc
end
section
namespace Uc
section
variable {C:Cx}{m:Str->Option Value}{nw:Led}{tb:Tb}{rest:List Stmt}{ks:List (List Stmt)}{pos:Pos}
noncomputable def jnQ {σ:Type}(C:Cx)(led:σ->Led)(ps:σ->Nms)(P:σ->Prop)(K:Flow->Shared->Prop)(f:Flow)(s':Shared):Prop:=match f with
 | .next=>∃c' m' h' tk',s'=C.sg h' tk'/\Fr C.h₀ C.L h' m'/\News C.h₀ C.L h' (led c')/\Has m' (ps c')/\P c'
 |f=>K f s'
theorem J.jn {σ:Type}{led:σ->Led}{ps:σ->Nms}{P:σ->Prop}{K:Flow->Shared->Prop}(c':σ)(hk:Has m (ps c'))(hp:P c')(hs:∀p∈led c',p∈nw):J (C.setQ (jnQ C led ps P K)) m nw [] []:=
 J.done fun h tk F N=>⟨c',m,h,tk,rfl,F,News.sub N hs,hk,hp⟩
theorem J.jl {σ:Type}{led:σ->Led}{ps:σ->Nms}{P:σ->Prop}{K:Flow->Shared->Prop}(c':σ)(hs:led c'=nw)(hk:Has m (ps c'))(hp:P c'):J (C.setQ (jnQ C led ps P K)) m nw [] []:=
 J.jn c' hk hp fun _ h=>hs▸h
theorem if_x {t:Expr}{b o:List Stmt}{P:Flow->Shared->Prop}{p:Prop}(h:∀Q:Bool->Shared->Prop,BK C m nw Q p->At C m nw fun s=>wpAny C.M C.A (isTrue t C.env (eval t C.env)) Q C.E s)
  (h1:p->let C':=C.setQ P;J C' m nw b []) (h2:¬ p->let C':=C.setQ P;J C' m nw o []):At C m nw fun s=>wpAny C.M C.A (exec (.If t b o pos) C.env) P C.E s:=by
 refine fun h0 tk F N=>wpAny_If (h _ (fun c hc h' tk' F' N'=>?_) h0 tk F N)
 cases c with
 |true=>rw[if_pos rfl];exact h1 (hc.mp rfl) h' tk' F' N'
 |false=>rw[if_neg (by decide)];exact h2 (fun z=>Bool.false_ne_true (hc.mpr z)) h' tk' F' N'
theorem ite_x {t:Expr}{b o:List Stmt}{P:Flow->Shared->Prop}(ht:TbOk C m nw tb)(h:(C.pB m tb t).holds fun p=>(p->let C':=C.setQ P;J C' m nw b [])/\(¬ p->let C':=C.setQ P;J C' m nw o [])):
  At C m nw fun s=>wpAny C.M C.A (exec (.If t b o pos) C.env) P C.E s:=by
 cases hp:C.pB m tb t with
 |bad=>rw[hp] at h;exact h.elim
 |ok p=>rw[hp] at h;exact if_x (fun Q q=>(pv_all ht 30).2.1 t Q (by show(C.pB m tb t).holds _;rw[hp];exact q)) h.1 h.2
 |cond c p=>rw[hp] at h;exact if_x (fun Q q=>(pv_all ht 30).2.1 t Q (by show(C.pB m tb t).holds _;rw[hp];exact⟨h.1,q⟩)) h.2.1 h.2.2
theorem At.gen {T:Shared->Prop}(l:Nms)(hk:Has m l)(h:∀u,At C (fm u l) nw T):At C m nw T:=by
 have:=h m
 rwa [fm_eq hk] at this
theorem J.stepJ {σ:Type}{st:Stmt}(led:σ->Led)(ps:σ->Nms)(P:σ->Prop)(h:At C m nw fun s=>wpAny C.M C.A (exec st C.env) (jnQ C led ps P (C.post (rest::ks))) C.E s)
  (h2:∀c u,P c->J C (fm u (ps c)) (led c) rest ks):J C m nw (st::rest) ks:=by
 refine J.step fun h0 tk F N=>wpAny_mono (h h0 tk F N) (fun f s' q=>?_) fun _ _ e=>e
 cases f with
 |next=>
  (refine Uc.ex4 q fun c' m' h' tk'=>Uc.an5 fun e1q F' N' hk' hp'=>?_;clear q;subst e1q)
  exact h2 c' m' hp' h' tk' (by rw[fm_eq hk'];exact F') N'
 |ret v=>exact q
 |brk=>exact q
 |cont=>exact q
theorem J.iteJ {σ:Type}{t:Expr}{b o:List Stmt}(led:σ->Led)(ps:σ->Nms)(P:σ->Prop)(ht:TbOk C m nw tb)
  (h:(C.pB m tb t).holds fun p=>(p->let C':=C.setQ (jnQ C led ps P (C.post (rest::ks)));J C' m nw b [])/\(¬ p->let C':=C.setQ (jnQ C led ps P (C.post (rest::ks)));J C' m nw o []))
  (h2:∀c u,P c->J C (fm u (ps c)) (led c) rest ks):J C m nw (.If t b o pos::rest) ks:=J.stepJ led ps P (ite_x ht h) h2
theorem J.app {x:Str}{e:Expr}{px pa pc:Pos}{D:Addr}{vs:List Value}{n:Nat}(ht:TbOk C m ((D,listOf vs.toArray n)::nw) tb)(hx:pNm C.env m tb x=some (.ref D))(he:plainArg e=true)(hne:∀p∈nw,p.1≠D)(hl:vs.length<=16777216)
  (hi:interactive C.env=false) (hs:swapsWith (.Call (.Attribute (.Name x px) "append" pa) [e] [] pc) none pos.line C.env=pure false)
  {pl:Sem Bool} (hm:eval (.Call (.Attribute (.Name x px) "append" pa) [e] [] pc) C.env=(do
   let ov<-eval (.Name x px) C.env
   standAt pa.atName
   let (f,first)<-holding [ov] (getMethod ov "append" pl)
   callWith pc f first (backTo pc (starEach [e] C.env)) []))
  (hb:(C.pV m tb e).holds fun v=>∀t,J C m ((D,listOf (vs++[v.den t]).toArray (n+1))::nw) rest ks):
  J C m ((D,listOf vs.toArray n)::nw) (.Expr (.Call (.Attribute (.Name x px) "append" pa) [e] [] pc) pos::rest) ks:=by
 refine J.step fun h tk F N=>wpAny_Expr_any (MethodCall_ (nm_ok ht hx px _ (fun h1 tk1 F1 N1=>?_) h tk F N) hm) hi hs
 refine PySem.Calls.getMethod_list_append (s:=C.sg h1 tk1) (N1.get (.head _)) rfl rfl ?_
 refine callWith_method1 (args_cons ?_ (star1 he)) (star1 he)
 refine(pv_all ht 30).1 e _ (Rs.mono (fun v q t h2 tk2 F2 N2=>?_) hb) _ _ F1 N1
 refine args_nil (append_K (s:=C.sg h2 tk2) F2 N2 (.head hne) (fun h3 F3 N3=>?_) ?_)
 ·rw[List.push_toArray] at N3
  exact q t h3 tk2 F3 N3
 ·show vs.toArray.size<=sizeLine
  rw[List.size_toArray]
  exact hl
end
end Uc
end
section
namespace Uc
noncomputable def rd_args:Arguments:=by
 refine(fun(_:f17_body[2]? =some (.Assign ?t (.Lambda ?a ?b ?s ?p) ?x))=>?a) ?h
 exact rfl
noncomputable def rd_body:Expr:=by
 refine(fun(_:f17_body[2]? =some (.Assign ?t (.Lambda ?a ?b ?s ?p) ?x))=>?b) ?h
 exact rfl
noncomputable def rd_scope:Scope:=by
 refine(fun(_:f17_body[2]? =some (.Assign ?t (.Lambda ?a ?b ?s ?p) ?x))=>?s) ?h
 exact rfl
noncomputable def rdQual:Str:="_law_lexer.<locals>.<lambda>"
noncomputable def rdO (pm:Value)(CC RC:Addr)(ct:Value):Obj:=kla_obj "<lambda>" rdQual rd_args rd_body rd_scope [(ofString "signs",CC)] pm RC ct
noncomputable abbrev fnO (fd:FuncData)(d:Option Addr):Obj:=⟨.type "function",d,.func fd,#[]⟩
set_option genInjectivity false in
set_option genSizeOf false in
structure Lex where
 X:Addr
 D:Addr
 PB:Addr
 SF:Addr
 SD:Addr
 RF:Addr
 RC:Addr
 CC:Addr
 SG:Addr
 fd:FuncData
 pm:Value
 ct:Value
 oc:Obj
 oC:Obj
 vc:Array Value
 tq:Tok
 tw:Tok
 k0:Tok
 k1:Tok
 k2:Tok
 k3:Tok
 kr:Tok
noncomputable abbrev lexDq (w:World)(q:Lex)(ln:Int)(tl:Tok):Obj:=dictOf [{ hash:=PyData.keyHash w.params (ofString "lineno"),key:=Value.str (ofString "lineno") q.k0,val:=.int ln tl },
  { hash:=PyData.keyHash w.params (ofString "instream"),key:=Value.str (ofString "instream") q.k1,val:=.ref q.SF },
  { hash:=PyData.keyHash w.params (ofString "whitespace"),key:=Value.str (ofString "whitespace") q.k2,val:=.str (ofString "\n\t\r ") q.tw },
  { hash:=PyData.keyHash w.params (ofString "pushback"),key:=Value.str (ofString "pushback") q.k3,val:=.ref q.PB }] 4
noncomputable abbrev lexSq (w:World)(q:Lex):Obj:=dictOf [{ hash:=PyData.keyHash w.params (ofString "read"),key:=Value.str (ofString "read") q.kr,val:=.ref q.RF }] 1
noncomputable abbrev lexLed (w:World)(q:Lex)(ln:Int)(tl:Tok)(ps:List Value)(pn:Nat)(ss:List Value)(sn:Nat):List (Addr×Obj):=
 (q.X,instObj 59 q.D)::(q.D,Uc.lexDq w q ln tl)::
 (q.PB,listOf ps.toArray pn)::(q.SF,fnO q.fd (some q.SD))::
 (q.SD,Uc.lexSq w q)::
 (q.RF,rdO q.pm q.CC q.RC q.ct)::(q.RC,q.oc)::(q.CC,q.oC)::(q.SG,listOf ss.toArray sn)::[]
structure LexOk (q:Lex) (news:List (Addr×Obj)):Prop where
 c1:q.oc.data=.fields q.vc
 c2:q.vc[1]? =some (.str rdQual q.tq)
 c3:q.oC.data=.cell (some (.ref q.SG))
 o1:q.CC<q.SG
 o2:q.SG<q.SF
 o3:q.SF<q.RC
 o4:q.RC<q.RF
 o5:q.RF<q.SD
 o6:q.SD<q.D
 o7:q.D<q.X
 o8:q.X<q.PB
 n1:∀p∈news,p.1≠q.D
 n2:∀p∈news,p.1≠q.PB
 n3:∀p∈news,p.1≠q.SG
section
variable (w:World)(p:Program)(loose:List Str)(mean:ExcName->Option Value)(mg mb:Str->Option Value)
theorem read_c (news:List (Addr×Obj))(q:Lex)(ln:Int)(tl:Tok)(ps:List Value)(pn:Nat)(ss:List Value)(sn:Nat)(ts:Tok)(sg:List Str)(hss:StrsAre ss sg)(hlen:ss.length<=100000)(ok:LexOk q news):
  Con w p loose mean mg mb q.RF 8 30 [.int 1 ts] (lexLed w q ln tl ps pn ss sn++news) (fun h=>CodeHd h 213 209) (fun v n=>∃sn' t,n=lexLed w q ln tl ps pn ss.tail sn'++news/\v=.str (sg.headD Str.empty) t):=by
 have o1:=ltN ok.o1
 have o2:=ltN ok.o2
 have o3:=ltN ok.o3
 have o4:=ltN ok.o4
 have o5:=ltN ok.o5
 have o6:=ltN ok.o6
 have o7:=ltN ok.o7
 have o8:=ltN ok.o8
 have n1:=ok.n1
 have n2:=ok.n2
 have n3:=ok.n3
 have c1:=ok.c1
 have c2:=ok.c2
 have c3:=ok.c3
 clear ok
 dsimp only[Con,Pm,lexLed,List.cons_append,List.nil_append]
 k_fill
 (set_option tactic.hygienic true in intros)
 rename_i hret
 refine wpAny_call ?_
 k_dflt (refine' kla_code ?k1 ?k2 ?k3 ?k4 ?k5 ?kA ?kF ?kK ?k6 ?k7 ?k8 ?k9 ?kB ?_ ?c2 ?c3 ?c4 ?c5;(case kA=>exact rfl);(case kF=>exact rfl);(case kK=>assumption);(case k1=>k_asm);(case k2=>k_asm);(case k3=>k_asm);(case k4=>k_asm);(case k5=>k_asm);(case k6=>k_mem);(case k7=>exact codeRec_news (by k_asm) (by k_mem) ‹_› ‹_›);(case k8=>ktr_room);(case k9=>exact rfl);(case c5=>decide);(case kB=>exact locs rfl);(case c2=>exact rfl);(case c3=>exact rfl);(case c4=>exact rfl);k_whole;intro g' L' h' FG' F' N' B' X' T';(try dsimp only);(try k_lift B');(try k_fold))
 unfold rd_body rd_scope
 try(try dsimp only)
 walk_at "X"
 cases ss with
 |nil=>
  cases hss
  refine Uc.ne_nil_ff ‹_› (by k_mem) (by k_mem) (by ktr_units) ?_
  walk_at "X"
  exact hret _ _ _ _ ⟨_,_,rfl,rfl⟩ ‹_› (News.sub ‹_› (by walk_at "I"))
 |cons s0 ss=>
  refine Uc.ne_nil_tt ‹_› (by k_mem) (by k_mem) (by ktr_units) ?_
  walk_at "X"
  obtain⟨y0,t0,ys,rfl,rfl,hvs⟩:∃y0 t0 ys,s0=Value.str y0 t0/\sg=y0::ys/\StrsAre ss ys:=by
   cases hss with
   |cons y t h=>exact⟨_,_,_,rfl,rfl,h⟩
  dsimp only[List.length_cons] at hlen
  have hsz:(Value.str y0 t0::ss).length<=sizeLine:=Nat.le_trans hlen (by decide)
  refine kl_popAt (its:=(Value.str y0 t0::ss).toArray) (k:=0) (p:=[]) (q:=ss) ‹_› ‹_› rfl (by rw[List.size_toArray];simp[seqIndex?]) rfl (by k_dflt k_upd) hsz ?_
  intro h' F' N'
  dsimp only[List.nil_append] at N'
  walk_at "X"
  exact hret _ _ _ _ ⟨_,_,rfl,rfl⟩ ‹_› (News.sub ‹_› (by walk_at "I"))
end
end Uc
end
section
namespace Uc
theorem slot_fn_sa:Slot "function" "__setattr__" "object.__setattr__":=.of (owner:="object") (n:="__setattr__") (by rw[typeLookup_type,builtinLookup_eq_fast];kernel_rfl) (by decide+kernel) (by decide+kernel) (by decide+kernel)
  (by first|exact .inl (by decide+kernel)|exact .inr (by decide+kernel)) (by rw[isSubtype_type];kernel_rfl)
theorem fn_mro:mroOf (.type "function")=pure [.type "function",.type "object"]:=by kernel_rfl
theorem fn_passes (self:Value):refuseLoop self "__setattr__" [.type "function",.type "object"]=pure ():=by kernel_rfl
theorem fn_noread:typeLookup (.type "function") (ofString "read")=pure none:=by rw[typeLookup_type,builtinLookup_eq_fast];kernel_rfl
section
variable {prog:Program}{w:World}{A:Around}{E:Value->Shared->Prop}{s:Shared}{h₀:Heap}{L:Addr}{m:Str->Option Value}
theorem fn_setattr {x:Addr}{fd:FuncData}{name:Str}{v:Value}{pre post:List (Addr×Obj)}{Q:Unit->Shared->Prop}(F:Fr h₀ L s.heap m)(N:News h₀ L s.heap (pre++(x,fnO fd none)::post))
  (h1:∀p∈pre,p.1≠x) (h2:∀p∈post,p.1≠x) (hname:typeLookup (.type "function") name=pure none)
  (h:∀h' d,Fr h₀ L h' m->News h₀ L h' ((d,dictOf [⟨PyData.keyHash w.params name,.str name (s.toks+1),v⟩] 1)::(pre++(x,fnO fd (some d))::post))->(∀p∈pre++(x,fnO fd none)::post,p.1<d)->Q () { s with heap:=h',toks:=s.toks+2 }):
  wpAny (model prog w) A (setAttr (.ref x) name v) Q E s:=by
 have D:=(N (x,fnO fd none) (by simp)).1
 have LT:Looks (model prog w) s.heap (typeOf (.ref x)) (.type "function"):=(Looks.ld (part:=some headPart) D).andThen .now
 refine wpAny_bind (wpAny_mkText (wpAny_bind (wpAny_bind (wpAny_bind (LT _ _ _ _ (fun _ _ e=>e) ((Looks.of_pure slot_fn_sa.lookup (h:=s.heap)) _ _ _ _ (fun _ _ e=>e) (wpAny_holding ?_)))))))
 rw[slot_fn_sa.bind]
 refine wpAny_bind (wpAny_pure (wpAny_bind (wpAny_call (codeAny_mono (R:=fun r s'=>r=.ok (.ret .none)/\Q () s') ?_ fun r s' z=>?_))))
 rotate_left
 ·obtain⟨rfl,z⟩:=z
  exact wpAny_pure (wpAny_pure z)
 have SF:=PySem.F.store_object
 refine codeAny_call_builtin SF.slot.plain SF.entry (slot_fn_sa.check _ _ _ _ _ _ _ _ ⟨_,D,rfl⟩ (SF.args _ _ _) ?_)
 show wpAny _ _ (Builtin.«object.__setattr__» ⟨[.ref x,.str name s.toks,v],[]⟩) _ _ _
 rw[osa_eq,refuse_eq]
 refine wpAny_bind (wpAny_bind (LT _ _ _ _ (fun _ _ e=>e) (wpAny_bind ?_)))
 rw[fn_mro]
 refine wpAny_pure ?_
 rw[fn_passes]
 refine wpAny_pure (wpAny_bind (LT _ _ _ _ (fun _ _ e=>e) (wpAny_bind ?_)))
 rw[hname]
 refine wpAny_pure (wpAny_bind (wpAny_pure ?_))
 have ne:x≠s.heap.objs.size:=Nat.ne_of_lt (Heap.lt_size D)
 have F1:=F.push (o:={ cls:=.type "dict",data:=.dict #[] })
 have N1:News h₀ L (s.heap.push { cls:=.type "dict",data:=.dict #[] }) (((s.heap.objs.size,{ cls:=.type "dict",data:=.dict #[] })::pre)++(x,fnO fd none)::post):=fun p hp=>by
  rw[List.cons_append] at hp
  rcases List.mem_cons.mp hp with rfl|hp
  ·exact⟨Heap.get?_push_size _ rfl,fun e=>absurd F.ns.lt (e▸Nat.lt_irrefl _),next_is_new F⟩
  ·exact⟨Heap.get?_push_of_some _ (N p hp).1,(N p hp).2⟩
 obtain⟨F2,N2⟩:=news_upd (f:=fun o=>{ o with dict:=some s.heap.objs.size }) F1 N1 (fun p hp=>by
  rcases List.mem_cons.mp hp with rfl|hp
  ·exact ne.symm
  ·exact h1 p hp) h2 (o':=fnO fd (some s.heap.objs.size)) rfl rfl
 have F3N3:=news_upd (pre:=[]) (f:=Obj.putName name (PyData.keyHash w.params name) (.str name (s.toks+1)) v) F2 (by rw[List.nil_append];exact N2) (fun _ h=>nomatch h) (fun p hp=>by
  have hp':p∈pre++(x,fnO fd (some s.heap.objs.size))::post:=hp
  rcases List.mem_append.mp hp' with q|q
  ·exact Nat.ne_of_lt (Heap.lt_size (N p (List.mem_append_left _ q)).1)
  ·rcases List.mem_cons.mp q with rfl|q
   ·exact ne
   ·exact Nat.ne_of_lt (Heap.lt_size (N p (List.mem_append_right _ (.tail _ q))).1)) (o':=dictOf [⟨PyData.keyHash w.params name,.str name (s.toks+1),v⟩] 1) (by
  show Obj.putName _ _ _ _ (dictOf [] 0)=_
  rw[putName_dict];rfl) rfl
 obtain⟨F3,N3⟩:=F3N3
 refine wpAny_bind (wpAny_pure (wpAny_bind (wpAny_bind (wpAny_loadPart D ?_))))
 (try dsimp only)
 refine wpAny_bind (wpAny_alloc ?_)
 refine wpAny_bind (wpAny_update (o:=fnO fd none) (Heap.get?_push_of_some _ D) ?_)
 have D2:=(N2 (s.heap.objs.size,{ cls:=.type "dict",data:=.dict #[] }) (.head _)).1
 have D3:=(N3 (s.heap.objs.size,dictOf [⟨PyData.keyHash w.params name,.str name (s.toks+1),v⟩] 1) (by simp)).1
 show wpAny _ _ (dictMade (.type "function") x s.heap.objs.size) _ _ _
 refine wpAny_pure (a:=some s.heap.objs.size) (wpAny_bind (wpAny_pure (wpAny_bind ?_)))
 unfold nsSet
 refine wpAny_bind (wpAny_bind (wpAny_askSetting (wpAny_pure (wpAny_bind (wpAny_mkText (wpAny_bind (wpAny_loadPart D2 ?_)))))))
 (try dsimp only)
 have c:((!(#[]:Array DictEntry).any (·.key.isStr name)&&(#[]:Array DictEntry).any (·.refKey)))=false:=by simp
 rw[aRefKeyMayBeTheName_at,c]
 refine wpAny_updatePart D2 ?_
 refine wpAny_bind (wpAny_lookBehind D3 (pastItsLine_dict (by rw[List.size_toArray,sizeLine_eq];exact Nat.le_add_left 1 16777216)) ?_)
 exact wpAny_pure ⟨rfl,h _ _ F3 N3 (fun p hp=>by
  rcases List.mem_append.mp hp with q|q
  ·exact Heap.lt_size (N p (List.mem_append_left _ q)).1
  ·rcases List.mem_cons.mp q with rfl|q
   ·exact Heap.lt_size D
   ·exact Heap.lt_size (N p (List.mem_append_right _ (.tail _ q))).1)⟩
theorem fn_setattrU {x:Addr}{fd:FuncData}{name:Str}{v:Value}{news:List (Addr×Obj)}{g:Obj->List (Addr×Obj)}{Q:Unit->Shared->Prop}(F:Fr h₀ L s.heap m)(N:News h₀ L s.heap news)(U:UpdF x (fnO fd none) news g)
  (hname:typeLookup (.type "function") name=pure none)
  (h:∀h' d,Fr h₀ L h' m->News h₀ L h' ((d,dictOf [⟨PyData.keyHash w.params name,.str name (s.toks+1),v⟩] 1)::g (fnO fd (some d)))->(∀p∈news,p.1<d)->Q () { s with heap:=h',toks:=s.toks+2 }):
  wpAny (model prog w) A (setAttr (.ref x) name v) Q E s:=by
 obtain⟨own,rest,rfl,hg,h1,h2⟩:=U.split
 exact fn_setattr F N h1 h2 hname fun h' d F' N' l=>h h' d F' (by rw[hg];exact N') l
theorem slot_fn_ga:Slot "function" "__getattribute__" "object.__getattribute__":=.of (owner:="object") (n:="__getattribute__") (by rw[typeLookup_type,builtinLookup_eq_fast];kernel_rfl) (by decide+kernel) (by decide+kernel) (by decide+kernel)
  (by first|exact .inl (by decide+kernel)|exact .inr (by decide+kernel)) (by rw[isSubtype_type];kernel_rfl)
theorem fn_noga:typeLookup (.type "function") "__getattr__"=pure none:=by rw[typeLookup_type,builtinLookup_eq_fast];kernel_rfl
theorem fn_getattr {x d b:Addr}{fd:FuncData}{name:Str}{hs:Int}{k:Tok}{news:List (Addr×Obj)}{expr:Bool}{Q:Value->Shared->Prop}(N:News h₀ L s.heap news)(hx:(x,fnO fd (some d))∈news)
  (hd:(d,dictOf [⟨hs,.str name k,.ref b⟩] 1)∈news) (hname:typeLookup (.type "function") name=pure none) (h:Q (.ref b) { s with toks:=s.toks+1 }):
  wpAny (model prog w) A (getAttr (.ref x) name expr) Q E s:=by
 have D:=(N _ hx).1
 have D2:=(N _ hd).1
 have LT:Looks (model prog w) s.heap (typeOf (.ref x)) (.type "function"):=(Looks.ld (part:=some headPart) D).andThen .now
 have LL:lookIn name (dictOf [⟨hs,.str name k,.ref b⟩] 1)=some (some (.ref b)):=by
  unfold lookIn
  simp[dictOf,Value.isStr]
 unfold getAttr getAttrBy
 refine wpAny_bind (wpAny_mkText (wpAny_holding (wpAny_bind (LT _ _ _ _ (fun _ _ e=>e) (wpAny_bind ?_)))))
 rw[slot_fn_ga.lookup]
 refine wpAny_pure ?_
 show wpAny _ _ (getAttrByItsOwn _ _ _ _ _ _) _ _ _
 refine wpAny_bind (m:=hookBefore _) (wpAny_pure ?_)
 refine wpAny_bind (wpAny_attempt (wpAny_holding ?_))
 rw[show callGetattribute (.ref x) (.str name s.toks) (.builtin "object.__getattribute__") expr=boundAndCalled (.builtin "object.__getattribute__") (.ref x) (.str name s.toks) from by cases expr<;>rfl]
 unfold boundAndCalled
 rw[slot_fn_ga.bind]
 refine wpAny_bind (wpAny_pure (wpAny_call (codeAny_mono (R:=fun r s'=>r=.ok (.ret (.ref b))/\s'={ s with toks:=s.toks+1 }) ?_ fun r s' z=>?_)))
 rotate_left
 ·obtain⟨rfl,rfl⟩:=z
  exact wpAny_pure h
 refine codeAny_call_builtin slot_fn_ga.plain PySem.F.entry_object_getattribute (slot_fn_ga.check _ _ _ _ _ _ _ _ ⟨_,D,rfl⟩ (PySem.F.args_object_getattribute_2 _ _) ?_)
 show wpAny _ _ (Builtin.«object.__getattribute__» ⟨[.ref x,.str name s.toks],[]⟩) _ _ _
 unfold Builtin.«object.__getattribute__»
 refine wpAny_bind (m:=slotArgs _ _ _) (wpAny_pure ?_)
 refine wpAny_bind (m:=Builtin.ObjectAttr.attrName _) (wpAny_pure (wpAny_bind (LT _ _ _ _ (fun _ _ e=>e) (wpAny_bind ?_))))
 unfold Builtin.ObjectAttr.find
 rw[hname]
 refine wpAny_bind (wpAny_pure (wpAny_bind (m:=Builtin.ObjectAttr.getOf _) (wpAny_pure (wpAny_bind (m:=Builtin.ObjectAttr.dataDescriptor? _ _) (wpAny_pure ?_)))))
 show wpAny _ _ (Builtin.ObjectAttr.ownThenClass _ _ _ _) _ _ _
 unfold Builtin.ObjectAttr.ownThenClass Builtin.ObjectAttr.inOwnDict Builtin.ObjectAttr.ownDict
 refine wpAny_bind (wpAny_bind (wpAny_bind (wpAny_loadPart D ?_)))
 refine wpAny_bind (wpAny_loadPart D ?_)
 refine wpAny_pure ?_
 refine wpAny_bind (wpAny_loadPart D2 ?_)
 rw[nsLook_of LL]
 refine wpAny_pure (wpAny_bind (wpAny_rule (wpAny_pure ?_)))
 exact wpAny_pure ⟨rfl,rfl⟩
theorem fn_getMethod {x d b:Addr}{fd:FuncData}{name:Str}{hs:Int}{k:Tok}{news:List (Addr×Obj)}{pl:Sem Bool}{Q:Value×List Value->Shared->Prop}(N:News h₀ L s.heap news)(hx:(x,fnO fd (some d))∈news)
  (hd:(d,dictOf [⟨hs,.str name k,.ref b⟩] 1)∈news) (hname:typeLookup (.type "function") name=pure none) (h:Q (.ref b,[]) { s with toks:=s.toks+1 }):
  wpAny (model prog w) A (getMethod (.ref x) name pl) Q E s:=by
 have D:=(N _ hx).1
 have LT:Looks (model prog w) s.heap (typeOf (.ref x)) (.type "function"):=(Looks.ld (part:=some headPart) D).andThen .now
 unfold getMethod
 refine wpAny_bind (wpAny_bind (LT _ _ _ _ (fun _ _ e=>e) ?_))
 rw[slot_fn_ga.lookup]
 refine wpAny_pure ?_
 show wpAny _ _ (if _ then _ else _) _ _ _
 rw[if_neg (by decide+kernel)]
 refine wpAny_bind (wpAny_bind (LT _ _ _ _ (fun _ _ e=>e) ?_))
 rw[fn_noga]
 refine wpAny_pure ?_
 refine wpAny_bind (wpAny_bind (LT _ _ _ _ (fun _ _ e=>e) ?_))
 rw[hname]
 refine wpAny_pure ?_
 refine wpAny_bind (fn_getattr N hx hd hname ?_)
 exact wpAny_pure h
end
end Uc
end
section
namespace Uc
noncomputable abbrev ConC (w:World)(p:Program)(loose:List Str)(mean:ExcName->Option Value)(mg mb:Str->Option Value)(f:Addr)(d u:Nat)(vs:List Value)(news:List (Addr×Obj))(pre:Heap->Prop)(R:Value->List (Addr×Obj)->Prop):Prop:=
 ∀(dp un:Nat) (gd:Option (List Code)) (cn:Str) (cs:Scope) (a:Addr) (ccd:Value) (cl:List (Str×Addr)) (outer:List Env) (A₀:Around) (base h₀:Heap) (L:Addr) (m:Str->Option Value) (s:Shared) (Q E:Value->Shared->Prop),
  Below A₀ base outer h₀->Fr h₀ L s.heap m->(K w.params).In h₀->News h₀ L s.heap news->Top p loose mean mg mb h₀->cs.kind=.function->pre base->dp+d<recursionLimit->un+u<cLine->
  (∀v news' h' tk',R v news'->Fr h₀ L h' m->News h₀ L h' news'->Q v { s with heap:=h',toks:=tk' })->
  codeAny (model Pm w) (ktrTop dp un gd cn cs L a ccd cl outer) (.call (.ref f) ⟨vs,[]⟩) (fun r s'=>match r with| .ok (.ret v)=>Q v s'| .ok _=>False| .error e=>E e s') s
theorem ConC.con {w:World}{p:Program}{loose:List Str}{mean:ExcName->Option Value}{mg mb:Str->Option Value}{f:Addr}{d u:Nat}{vs:List Value}{news:List (Addr×Obj)}{pre:Heap->Prop}{R:Value->List (Addr×Obj)->Prop}(h:ConC w p loose mean mg mb f d u vs news pre R):Con w p loose mean mg mb f d u vs news pre R:=
 fun dp un gd cn cs a ccd cl outer A₀ base h₀ L m s Q E a1 a2 a3 a4 a5 a6 a7 a8 a9 a10=>wpAny_call (h dp un gd cn cs a ccd cl outer A₀ base h₀ L m s Q E a1 a2 a3 a4 a5 a6 a7 a8 a9 a10)
section
variable (w:World)(p:Program)(loose:List Str)(mean:ExcName->Option Value)(mg mb:Str->Option Value)
theorem read_charC (news:List (Addr×Obj))(q:Lex)(ln:Int)(tl:Tok)(ps:List Value)(pn:Nat)(ss:List Value)(sn:Nat)(sg:List Str)(hss:StrsAre ss sg)(hlen:ss.length<=100000)(hln:0<=ln/\ln<=1000000)(ok:LexOk q news):
  ConC w p loose mean mg mb 42 12 40 [.ref q.X] (lexLed w q ln tl ps pn ss sn++news) (fun h=>CodeHd h 213 209) (fun v n=>∃tl' sn' t,n=lexLed w q (if sg.headD Str.empty=ofString "\n" then ln+1 else ln) tl' ps pn ss.tail sn'++news/\v=.str (sg.headD Str.empty) t):=by
 have o1:=ltN ok.o1
 have o2:=ltN ok.o2
 have o3:=ltN ok.o3
 have o4:=ltN ok.o4
 have o5:=ltN ok.o5
 have o6:=ltN ok.o6
 have o7:=ltN ok.o7
 have o8:=ltN ok.o8
 have n1:=ok.n1
 have n2:=ok.n2
 have n3:=ok.n3
 dsimp only[ConC,Pm,lexLed,List.cons_append,List.nil_append]
 k_fill
 (set_option tactic.hygienic true in intros)
 rename_i hret
 k_dflt cell_enter
 (refine Uc.letAE ?_;intro AA EE)
 repeat' (first|(walk_at "P")|(walk_at "V";first|(((with_reducible show wpAny _ _ (getMethod (Value.ref _) (ofString "read") _) _ _ _);(refine Uc.fn_getMethod ‹_› (by k_dflt k_mem) (by k_dflt k_mem) Uc.fn_noread ?_)))|(walk_at "T")))
 (refine read_c w p loose mean mg mb news q ln tl ps pn ss sn _ sg hss hlen ok _ _ _ _ _ _ _ _ _ _ _ _ _ _ _ _ _ ‹_› ‹_› ‹_› ‹_› ‹_› (by first|assumption|rfl) ?pre (by walk_at "r") (by walk_at "u") ?_);(case pre=>first|exact trivial|assumption)
 first|refine kE2nv ?_|refine kE2vn ?_
 intro sn' t' h' tk' F N
 dsimp only[lexLed,List.cons_append,List.nil_append] at N
 walk_at "X"
 ·rename (_==_)=true=>hc
  rw[if_pos (beq_iff_eq.mp hc)] at hret
  exact hret _ _ _ _ ⟨_,_,_,rfl,rfl⟩ ‹_› ‹_›
 ·rename (_==_)=false=>hc
  rw[if_neg (beq_eq_false_iff_ne.mp hc)] at hret
  exact hret _ _ _ _ ⟨_,_,_,rfl,rfl⟩ ‹_› ‹_›
end
end Uc
end
section
namespace Uc
noncomputable abbrev itO (q:Addr)(t:Tok):Obj:={ cls:=.type "callable_iterator",data:=.fields #[.ref q,.str (ofString "") t,.bool false] }
noncomputable abbrev itE:Obj:={ cls:=.type "callable_iterator",data:=.fields #[.none,.none,.bool true] }
theorem slot_ci_next:Slot "callable_iterator" "__next__" "callable_iterator.__next__":=.of (owner:="callable_iterator") (n:="__next__") (by rw[typeLookup_type,builtinLookup_eq_fast];kernel_rfl) (by decide+kernel) (by decide+kernel) (by decide+kernel)
  (by first|exact .inl (by decide+kernel)|exact .inr (by decide+kernel)) (by rw[isSubtype_type];kernel_rfl)
theorem entry_ci_next:entryFor table "callable_iterator.__next__"=some Builtin.«callable_iterator.__next__» :=entryFor_of_tree (by kernel_rfl)
theorem args_ci_next (a:Value):argsOk "callable_iterator.__next__" ⟨[a],[]⟩:=by unfold argsOk;kernel_rfl
theorem entry_iter:entryFor table "iter"=some Builtin.«iter» :=entryFor_of_tree (by kernel_rfl)
theorem args_iter2 (a b:Value):argsOk "iter" ⟨[a,b],[]⟩:=by unfold argsOk;kernel_rfl
theorem meth_call:∃v,typeLookup (.type "method") "__call__"=pure (some v):=⟨.builtin "method.__call__",by rw[typeLookup_type,builtinLookup_eq_fast];kernel_rfl⟩
section
variable {prog:Program}{w:World}{A:Around}{E:Value->Shared->Prop}{s:Shared}{h₀:Heap}{L:Addr}{m:Str->Option Value}
theorem iter_make {q:Addr}{f x:Value}{t:Tok}{y:Str}{news:List (Addr×Obj)}{Q:Value->Shared->Prop}(F:Fr h₀ L s.heap m)(N:News h₀ L s.heap news)(hq:(q,methodObj f x)∈news)
  (h:∀h' I,Fr h₀ L h' m->News h₀ L h' ((I,{ cls:=.type "callable_iterator",data:=.fields #[.ref q,.str y t,.bool false] })::news)->(∀p∈news,p.1<I)->Q (.ref I) { s with heap:=h' }):
  wpAny (model prog w) A (call (.builtin "iter") [.ref q,.str y t]) Q E s:=by
 have D:=(N _ hq).1
 have LT:Looks (model prog w) s.heap (typeOf (.ref q)) (.type "method"):=(Looks.ld (part:=some headPart) D).andThen .now
 obtain⟨mc,hmc⟩:=meth_call
 refine PySem.Calls.call_function_entry (by decide+kernel) (by decide+kernel) entry_iter (args_iter2 _ _) ?_
 unfold Builtin.«iter»
 refine wpAny_bind (m:=someArgs _ _ _ _) (wpAny_pure ?_)
 (try dsimp only)
 refine wpAny_bind (wpAny_bind (LT _ _ _ _ (fun _ _ e=>e) ?_))
 rw[hmc]
 refine wpAny_pure ?_
 refine wpAny_bind (wpAny_rule (wpAny_bind ?_))
 refine wpAny_newObj_type (wpAny_pure ⟨_,rfl,h _ _ (F.push _) (fun p hp=>?_) fun p hp=>Heap.lt_size (N p hp).1⟩) (by size_fits)
 rcases List.mem_cons.mp hp with rfl|hp
 ·exact⟨Heap.get?_push_size _ rfl,fun e=>absurd F.ns.lt (e▸Nat.lt_irrefl _),next_is_new F⟩
 ·exact⟨Heap.get?_push_of_some _ (N p hp).1,(N p hp).2⟩
theorem iter_make2 {q:Addr}{f x:Value}{t:Tok}{rest:List (Addr×Obj)}{Q:Value->Shared->Prop}(F:Fr h₀ L s.heap m)(N:News h₀ L s.heap ((q,methodObj f x)::rest))(hl:AllLt q rest)
  (h:∀q₀ t₀ h' I,Fr h₀ L h' m->News h₀ L h' ((I,itO q₀ t₀)::(q₀,methodObj f x)::rest)->AllLt q₀ rest->q₀<I->Q (.ref I) { s with heap:=h' }):
  wpAny (model prog w) A (call (.builtin "iter") [.ref q,.str (ofString "") t]) Q E s:=
 iter_make F N (.head _) fun h' I F' N' l=>h q t h' I F' N' hl (l _ (.head _))
theorem wpAny_borrowed {M:Model}{f:Value}{pos:List Value}{Q:Value->Shared->Prop}(hc:codeAny M A (.call f ⟨pos,[]⟩) (fun r s'=>match r with| .ok (.ret v)=>Q v s'| .ok _=>False| .error e=>E e s') s):
  wpAny M A (callBorrowed f pos) Q E s:=fun Γ p hΓ=>by
 unfold callBorrowed
 rw[Sem.wp_call]
 refine wpCode_mono (fun r s' h=>?_) (hc _ p rfl (hΓ.enter _ none p (by intro x;cases x)))
 cases r with
 |error e=>exact h
 |ok f=>cases f with
  |ret v=>exact h
  |_=>exact h.elim
theorem meth_borrows {q f:Addr}{x:Value}{fo:Obj}{fd:FuncData}{M:Model}{Q:Bool->Shared->Prop}(hq:s.heap.get? q=some (methodObj (.ref f) x))(hf:s.heap.get? f=some fo)(hd:fo.data=.func fd)(h:Q true s):
  wpAny M A (borrowsExactly (.ref q)) Q E s:=by
 unfold borrowsExactly
 refine wpAny_bind (wpAny_load hq ?_)
 (try dsimp only)
 rw[if_pos (by decide)]
 refine wpAny_bind (wpAny_load hf ?_)
 rw[hd]
 exact wpAny_pure h
theorem stop_it {α:Type}{M:Model}{Q:α->Shared->Prop}(hh:A.handled=none)(h:∀h' e,(∀b o,s.heap.get? b=some o->h'.get? b=some o)->({ s with heap:=h' }:Shared).TypeIs (.ref e) "StopIteration"->E (.ref e) { s with heap:=h' }):
  wpAny M A (newExc (.type "StopIteration") []>>=fun e=>(raiseNew e:Sem α)) Q E s:=by
 refine wpAny_bind ?_
 simp only[newExc,newTuple]
 refine wpAny_bind (wpAny_newObj_type ?_ (by size_fits))
 refine wpAny_bind (m:=firstArgMember _ _) (wpAny_of_eq (a:=Value.none) (by first|rfl|(simp only[firstArgMember];rfl)) ?_)
 refine wpAny_newObj_type ?_ (by size_fits)
 delta raiseNew
 refine wpAny_bind (wpAny_handled ?_)
 rw[hh]
 refine wpAny_bind (wpAny_pure (wpAny_throw ?_))
 exact h _ _ (fun b o e=>Heap.get?_push_of_some _ (Heap.get?_push_of_some _ e)) ⟨_,Heap.get?_push_size _ rfl,rfl⟩
theorem next_dead {I:Addr}{Q:Option Value->Shared->Prop}(hh:A.handled=none)(hI:s.heap.get? I=some itE)(h:∀h',(∀b o,s.heap.get? b=some o->h'.get? b=some o)->Q none { s with heap:=h' }):
  wpAny (model prog w) A (pyNext (.ref I)) Q E s:=by
 have hT:s.TypeIs (.ref I) "callable_iterator":=⟨_,hI,rfl⟩
 unfold pyNext
 refine wpAny_bind (wpAny_attempt (wpAny_callSpecial?_slot (name:=ofString "__next__") hT slot_ci_next (wpAny_call_entry slot_ci_next hT entry_ci_next ?_ (args_ci_next _))))
 unfold Builtin.«callable_iterator.__next__»
 refine wpAny_bind (m:=slotArgs _ _ _) (wpAny_pure ?_)
 refine wpAny_bind (wpAny_field hI rfl (x:=.bool true) rfl ?_)
 show wpAny _ _ (if _ then _ else _) _ _ _
 rw[if_pos (by decide)]
 refine wpAny_bind (wpAny_rule ?_)
 refine wpAny_bind ?_
 refine stop_it (A:=A.in1) hh fun h' e hk hT'=>?_
 refine wpAny_bind (wpAny_isInstance (T:="StopIteration") (b:=true) hT' isSubtype_stop ?_)
 exact wpAny_pure (h _ hk)
theorem next_live {I q f:Addr}{x:Value}{t:Tok}{fo:Obj}{fd:FuncData}{Q:Option Value->Shared->Prop}(hh:A.handled=none)(hI:s.heap.get? I=some (itO q t))(hq:s.heap.get? q=some (methodObj (.ref f) x))(hf:s.heap.get? f=some fo)(hd:fo.data=.func fd)
  (h:codeAny (model prog w) A.in1 (.call (.ref f) ⟨[x],[]⟩) (fun r s'=>∃y u,r=.ok (.ret (.str y u))/\s'.heap.get? I=some (itO q t)/\s'.heap.get? q=some (methodObj (.ref f) x)/\s'.heap.get? f=some fo/\
   (y≠ofString ""->Q (some (.str y u)) s')/\(y=ofString ""->∀h',(∀b o,b≠I->s'.heap.get? b=some o->h'.get? b=some o)->h'.get? I=some itE->Q none { s' with heap:=h' })) s):
  wpAny (model prog w) A (pyNext (.ref I)) Q E s:=by
 have hT:s.TypeIs (.ref I) "callable_iterator":=⟨_,hI,rfl⟩
 unfold pyNext
 refine wpAny_bind (wpAny_attempt (wpAny_callSpecial?_slot (name:=ofString "__next__") hT slot_ci_next (wpAny_call_entry slot_ci_next hT entry_ci_next ?_ (args_ci_next _))))
 unfold Builtin.«callable_iterator.__next__»
 refine wpAny_bind (m:=slotArgs _ _ _) (wpAny_pure ?_)
 refine wpAny_bind (wpAny_field hI rfl (x:=.bool false) rfl ?_)
 show wpAny _ _ (if _ then _ else _) _ _ _
 rw[if_neg (by decide)]
 refine wpAny_bind (wpAny_field hI rfl (x:=.ref q) rfl ?_)
 refine wpAny_bind (wpAny_attempt ?_)
 unfold callOutOfASlot
 refine wpAny_bind (meth_borrows hq hf hd ?_)
 rw[if_pos rfl]
 refine wpAny_borrowed (method_call hq (codeAny_mono h fun r s' z=>?_))
 (refine Uc.ex2 z fun y u=>Uc.an6 fun e1q hI' hq' hf' z1 z2=>?_;clear z;subst e1q)
 (try dsimp only)
 refine wpAny_bind (wpAny_field hI' rfl (x:=.bool false) rfl ?_)
 show wpAny _ _ (if _ then _ else _) _ _ _
 rw[if_neg (by decide)]
 refine wpAny_bind (wpAny_field hI' rfl (x:=.str (ofString "") t) rfl ?_)
 refine wpAny_bind (wpAny_holding (eqBool_str ?_))
 by_cases hy:y=ofString ""
 ·subst hy
  rw[show(!(ofString ""==ofString ""))=false from by simp]
  rw[if_neg (by decide)]
  refine wpAny_bind (wpAny_rule ?_)
  refine wpAny_bind ?_
  show wpAny _ _ (field (.ref I) 0>>=_) _ _ _
  refine wpAny_bind (wpAny_field hI' rfl (x:=.ref q) rfl ?_)
  refine wpAny_bind ?_
  unfold slotLetsGo
  (try dsimp only)
  refine wpAny_bind (meth_borrows hq' hf' hd ?_)
  rw[if_pos rfl]
  refine wpAny_pure ?_
  refine wpAny_bind (wpAny_setField hI' rfl (Nat.lt_of_sub_eq_succ rfl) ?_)
  have h1:=Heap.get?_update_self (Obj.mapFields (·.setIfInBounds 0 .none)) hI' rfl
  refine wpAny_bind (wpAny_setField h1 rfl (Nat.lt_of_sub_eq_succ rfl) ?_)
  have h2:=Heap.get?_update_self (Obj.mapFields (·.setIfInBounds 1 .none)) h1 rfl
  refine wpAny_setField h2 rfl (Nat.lt_of_sub_eq_succ rfl) ?_
  have h3:=Heap.get?_update_self (Obj.mapFields (·.setIfInBounds 2 (.bool true))) h2 rfl
  refine stop_it (A:=A.in1) hh fun h' e hk hT'=>?_
  refine wpAny_bind (wpAny_isInstance (T:="StopIteration") (b:=true) hT' isSubtype_stop ?_)
  refine wpAny_pure (z2 rfl h' (fun b o hb e=>hk _ _ ?_) (hk _ _ h3))
  exact(Heap.get?_update_ne _ _ _ _ hb).trans ((Heap.get?_update_ne _ _ _ _ hb).trans ((Heap.get?_update_ne _ _ _ _ hb).trans e))
 ·rw[show(!(ofString ""==y))=true from by simp;exact fun e=>hy e.symm]
  rw[if_pos rfl]
  exact wpAny_pure ⟨_,rfl,wpAny_pure (z1 hy)⟩
theorem slot_ci_iter:Slot "callable_iterator" "__iter__" "callable_iterator.__iter__":=.of (owner:="callable_iterator") (n:="__iter__") (by rw[typeLookup_type,builtinLookup_eq_fast];kernel_rfl) (by decide+kernel) (by decide+kernel) (by decide+kernel)
  (by first|exact .inl (by decide+kernel)|exact .inr (by decide+kernel)) (by rw[isSubtype_type];kernel_rfl)
theorem entry_ci_iter:entryFor table "callable_iterator.__iter__"=some Builtin.«dict_keyiterator.__iter__» :=
 entryFor_alias (id':="dict_keyiterator.__iter__") (by kernel_rfl) (by first|rfl|decide+kernel|(unfold String.splitOn;simp+decide [String.splitOnAux])) (by decide+kernel) (by kernel_rfl)
theorem args_ci_iter (a:Value):argsOk "callable_iterator.__iter__" ⟨[a],[]⟩:=by unfold argsOk;kernel_rfl
theorem ci_self {I:Addr}{Q:Value->Shared->Prop}(hT:s.TypeIs (.ref I) "callable_iterator")(h:Q (.ref I) s):wpAny (model prog w) A (pyIter (.ref I)) Q E s:=by
 refine wpAny_pyIter_slot hT slot_ci_iter (wpAny_call_entry slot_ci_iter hT entry_ci_iter ?_ (args_ci_iter _))
 show wpAny _ _ (ret (.ref I)) _ _ s
 exact wpAny_pure ⟨_,rfl,"callable_iterator",_,hT,slot_ci_next.lookup,h⟩
theorem for_own {env:Env}{Q:Flow->Shared->Prop}{σ:Type}{x:Str}{px:Pos}{body:List Stmt}{m₀:Str->Option Value}(I:Addr)(led:σ->Led)(ps:σ->Nms)(P:σ->Prop)(Y:Value->σ->Prop)(Z:σ->Prop)(μ:σ->Nat)(c₀:σ)
  (hx:env.kindOf x=some .local) (hp':(env.scope.kind==.class||(env.scope.kind==.module&&env.locals !=env.globals))=false)
  (F:Fr h₀ env.locals s.heap m₀) (N:News h₀ env.locals s.heap (led c₀)) (hk:Has m₀ (ps c₀)) (hp:P c₀)
  (turn:∀(c:σ) (u:Str->Option Value) h tk,P c->Fr h₀ env.locals h (fm u (ps c))->News h₀ env.locals h (led c)->
   wpAny (model prog w) A (pyNext (.ref I)) (fun r s₂=>match r with
    |none=>Got h₀ env.locals led ps Z s s₂
    |some v=>Got h₀ env.locals led ps (fun c'=>Y v c'/\μ c'<μ c) s s₂) E { s with heap:=h,toks:=tk })
  (bodyT:∀(c:σ) v (u:Str->Option Value) h tk,Y v c->Fr h₀ env.locals h (fun y=>if y=x then some v else fm u (ps c) y)->News h₀ env.locals h (led c)->
   wpAny (model prog w) A (execs body env) (fun f s'=>match f with
    | .ret v=>Q (.ret v) s'
    | .brk=>Q .next s'
    |_=>Got h₀ env.locals led ps (fun c'=>P c'/\μ c'<=μ c) s s') E { s with heap:=h,toks:=tk })
  (done:∀c u h tk,Z c->Fr h₀ env.locals h (fm u (ps c))->News h₀ env.locals h (led c)->Q .next { s with heap:=h,toks:=tk })
  (hE:PassesOwn (model prog w) A env E):
  codeAny (model prog w) A (.forLoop (.Name x px) (.ref I) body [] env) (fun r s'=>match r with| .ok f=>Q f s'| .error e=>cameBackBy (model prog w) A env E e s') s:=by
 refine codeAny_forLoop (fun k s'=>∃c,Got h₀ env.locals led ps (fun c'=>c'=c/\P c) s s'/\μ c=k) ?_ (μ c₀) ⟨c₀,⟨c₀,m₀,s.heap,s.toks,rfl,F,N,hk,rfl,hp⟩,rfl⟩
 intro k s' w1q;(refine Uc.ex1 w1q fun c=>Uc.an2 fun w2q e1q=>?_;clear w1q;subst e1q);(refine Uc.ex4 w2q fun c' m' h' tk'=>Uc.an6 fun e1q F' N' hk' e2q hp1=>?_;clear w2q;subst e1q;subst e2q)
 refine wpAny_mono (wpAny_passesOwn hE (turn c' m' h' tk' hp1 (by rw[fm_eq hk'];exact F') N')) (fun r s₂ q=>?_) fun _ _ e=>e
 cases r with
 |none=>
  (refine Uc.ex4 q fun c₂ m₂ h₂ tk₂=>Uc.an5 fun e1q F₂ N₂ hk₂ hz=>?_;clear q;subst e1q)
  exact wpAny_execs_nil (done c₂ m₂ h₂ tk₂ hz (by rw[fm_eq hk₂];exact F₂) N₂)
 |some v=>
  (refine Uc.ex4 q fun c₂ m₂ h₂ tk₂=>Uc.an6 fun e1q F₂ N₂ hk₂ hy hlt=>?_;clear q;subst e1q)
  refine wpAny_assign_Name (wpAny_storeName_local hx F₂.ns (fun h₃ hn₃ hs₃=>?_) hp')
  refine wpAny_mono (wpAny_passesOwn hE (bodyT c₂ v m₂ h₃ _ hy (by rw[fm_eq hk₂];exact F₂.set hn₃ hs₃) (N₂.set hs₃))) (fun f s₃ q=>?_) fun _ _ e=>e
  have go:Got h₀ env.locals led ps (fun c'=>P c'/\μ c'<=μ c₂) s s₃->∃m,m<μ c'/\∃c,Got h₀ env.locals led ps (fun c'=>c'=c/\P c) s s₃/\μ c=m:=fun q=>by
   (refine Uc.ex4 q fun c₄ m₄ h₄ tk₄=>Uc.an6 fun e1q F₄ N₄ hk₄ hp₄ hle=>?_;clear q;subst e1q)
   exact⟨μ c₄,Nat.lt_of_le_of_lt hle hlt,c₄,⟨c₄,m₄,h₄,tk₄,rfl,F₄,N₄,hk₄,rfl,hp₄⟩,rfl⟩
  cases f with
  |ret v=>exact q
  |brk=>exact q
  |next=>exact go q
  |cont=>exact go q
end
end Uc
end
section
namespace Uc
noncomputable def isWs (c:Nat):Bool:=c==10||c==9||c==13||c==32
noncomputable def qGo:List Nat->List Nat->List Nat×List Nat
 | [],acc=>(acc,[])
 |c::r,acc=>if c=34 then(acc,r) else if c=92 then(match r with
  | []=>(acc,[])
  |d::r'=>qGo r' (acc++[d])) else qGo r (acc++[c])
noncomputable def bGo:List Nat->List Nat->List Nat×List Nat
 | [],acc=>(acc,[])
 |c::r,acc=>if isWs c then(acc,r) else if c=92 then(match r with
  | []=>(acc,[])
  |d::r'=>bGo r' (acc++[d])) else bGo r (acc++[c])
noncomputable def tokGo:List Nat->List Nat×List Nat
 | []=>([],[])
 |c::r=>if isWs c then tokGo r else if c=34 then qGo r [] else if c=92 then(match r with
  | []=>([],[])
  |d::r'=>bGo r' [d]) else bGo r [c]
theorem tok_eq (c:Nat)(r:List Nat):tokGo (c::r)=if isWs c then tokGo r else if c=34 then qGo r [] else if c=92 then(match r with
  | []=>([],[])
  |d::r'=>bGo r' [d]) else bGo r [c]:=by
 cases r<;>rfl
theorem q_eq (c:Nat)(r acc:List Nat):qGo (c::r) acc=if c=34 then(acc,r) else if c=92 then(match r with
  | []=>(acc,[])
  |d::r'=>qGo r' (acc++[d])) else qGo r (acc++[c]):=by
 cases r<;>rfl
theorem b_eq (c:Nat)(r acc:List Nat):bGo (c::r) acc=if isWs c then(acc,r) else if c=92 then(match r with
  | []=>(acc,[])
  |d::r'=>bGo r' (acc++[d])) else bGo r (acc++[c]):=by
 cases r<;>rfl
theorem tok_ws {c:Nat}{r:List Nat}(h:isWs c=true):tokGo (c::r)=tokGo r:=by rw[tok_eq,if_pos h]
theorem tok_q (r:List Nat):tokGo (34::r)=qGo r []:=by rw[tok_eq,if_neg (by decide),if_pos rfl]
theorem tok_e1 (d:Nat)(r:List Nat):tokGo (92::d::r)=bGo r [d]:=by rw[tok_eq,if_neg (by decide),if_neg (by decide),if_pos rfl]
theorem tok_b {c:Nat}{r:List Nat}(h:isWs c=false)(h1:c≠34)(h2:c≠92):tokGo (c::r)=bGo r [c]:=by rw[tok_eq,if_neg (by rw[h];decide),if_neg h1,if_neg h2]
theorem q_q (r acc:List Nat):qGo (34::r) acc=(acc,r):=by rw[q_eq,if_pos rfl]
theorem q_e1 (d:Nat)(r acc:List Nat):qGo (92::d::r) acc=qGo r (acc++[d]):=by rw[q_eq,if_neg (by decide),if_pos rfl]
theorem q_b {c:Nat}{r acc:List Nat}(h1:c≠34)(h2:c≠92):qGo (c::r) acc=qGo r (acc++[c]):=by rw[q_eq,if_neg h1,if_neg h2]
theorem b_w {c:Nat}{r acc:List Nat}(h:isWs c=true):bGo (c::r) acc=(acc,r):=by rw[b_eq,if_pos h]
theorem b_e1 (d:Nat)(r acc:List Nat):bGo (92::d::r) acc=bGo r (acc++[d]):=by rw[b_eq,if_neg (by decide),if_pos rfl]
theorem b_b {c:Nat}{r acc:List Nat}(h1:isWs c=false)(h2:c≠92):bGo (c::r) acc=bGo r (acc++[c]):=by rw[b_eq,if_neg (by rw[h1];decide),if_neg h2]
noncomputable def chr1 (c:Nat):Str:=⟨#[c]⟩
noncomputable def chrs (l:List Nat):List Str:=l.map chr1
end Uc
end
section
namespace Uc
theorem count_ten (T:Int)(c:Nat)(r:List Nat):(if chr1 c=ofString "\n" then T-((c::r).count 10:Int)+1 else T-((c::r).count 10:Int))=T-(r.count 10:Int):=by
 have e:(chr1 c=ofString "\n")↔c=10:=by
  rw[show ofString "\n"=(⟨#[10]⟩:Str) from by rfl]
  unfold chr1
  constructor
  ·intro h;injection h with h;simpa using h
  ·rintro rfl;rfl
 by_cases h:c=10
 ·rw[if_pos (e.mpr h),h,List.count_cons_self];push_cast;(walk_at "O")
 ·rw[if_neg (fun q=>h (e.mp q)),List.count_cons_of_ne (fun q=>h q)]
theorem sub1 (d a0 a1 a2 a3:Nat):∀i,i<4->Builtin.Str.subAt (⟨#[a0,a1,a2,a3]⟩) (chr1 d) i=(#[a0,a1,a2,a3].getD i 0==d):=by
 intro i hi
 have e:∀a:Nat,(#[a]==#[d])=(a==d):=fun a=>by simp
 exact lt4 (P:=fun i=>Builtin.Str.subAt (⟨#[a0,a1,a2,a3]⟩) (chr1 d) i=(#[a0,a1,a2,a3].getD i 0==d)) hi (e a0) (e a1) (e a2) (e a3)
theorem ws_occ (d:Nat):(Builtin.Str.occurrences (ofString "\n\t\r ") (chr1 d) 0 (ofString "\n\t\r ").length 1).isEmpty= !(isWs d):=by
 have e:ofString "\n\t\r "=⟨#[10,9,13,32]⟩:=by rfl
 rw[e]
 have hl:(⟨#[10,9,13,32]⟩:Str).length=4:=rfl
 have h1:(chr1 d).length=1:=rfl
 have s0:=sub1 d 10 9 13 32 0 (by decide)
 have s1:=sub1 d 10 9 13 32 1 (by decide)
 have s2:=sub1 d 10 9 13 32 2 (by decide)
 have s3:=sub1 d 10 9 13 32 3 (by decide)
 unfold Builtin.Str.occurrences
 rw[hl]
 simp only[h1,Std.Legacy.Range.forIn_eq_forIn_range',Std.Legacy.Range.size]
 simp[Id.run,s0,s1,s2,s3,List.range',isWs]
 by_cases a0:10=d
 ·subst a0;rfl
 by_cases a1:9=d
 ·subst a1;rfl
 by_cases a2:13=d
 ·subst a2;rfl
 by_cases a3:32=d
 ·subst a3;rfl
 rw[if_neg a0]
 have b0:(d==10)=false:=by simp;(walk_at "O")
 have b1:(d==9)=false:=by simp;(walk_at "O")
 have b2:(d==13)=false:=by simp;(walk_at "O")
 have b3:(d==32)=false:=by simp;(walk_at "O")
 rw[b0,b1,b2,b3]
 simp[a1,a2,a3]
 rfl
theorem chr1_eq {d c:Nat}{x:Str}(hx:x=(⟨#[c]⟩:Str)):(chr1 d==x)=(d==c):=by
 subst hx
 unfold chr1
 by_cases h:d=c
 ·subst h;simp
 ·have:(d==c)=false:=by simpa using h
  rw[this,beq_eq_false_iff_ne]
  intro e
  injection e with e
  simp at e
  exact h e
theorem app1 (a:List Nat)(d:Nat):(⟨a.toArray⟩:Str)++(⟨#[d]⟩:Str)=⟨(a++[d]).toArray⟩:=by
 show(⟨a.toArray++#[d]⟩:Str)=_
 simp
theorem app1c (a:List Nat)(d:Nat):(⟨a.toArray⟩:Str)++chr1 d=⟨(a++[d]).toArray⟩:=app1 a d
theorem app0 (a:List Nat):(⟨a.toArray⟩:Str)++(⟨#[]⟩:Str)=⟨a.toArray⟩:=by
 show(⟨a.toArray++#[]⟩:Str)=_
 simp
theorem add_fits {a:List Nat}{y:Str}(h:a.length<=20000)(hy:y.length<=1):(⟨a.toArray⟩:Str).length+y.length<=sizeLine:=by
 have:(⟨a.toArray⟩:Str).length=a.length:=by show a.toArray.size=_;simp
 rw[this,sizeLine_eq]
 (walk_at "O")
noncomputable def NextR (w:World)(q:Lex)(T:Int)(pn:Nat)(q' I:Addr)(t:Tok)(news:List (Addr×Obj)):List Nat->Option Value->List (Addr×Obj)->Prop
 | [],r,n=>∃tl' sn',r=none/\n=lexLed w q (T-(([]:List Nat).count 10:Int)) tl' [] pn [] sn'++(I,itE)::(q',methodObj (.ref 42) (.ref q.X))::news
 |c::r',r,n=>∃tl' ss' sn' u,r=some (.str (chr1 c) u)/\StrsAre ss' (chrs r')/\n=lexLed w q (T-(r'.count 10:Int)) tl' [] pn ss' sn'++(I,itO q' t)::(q',methodObj (.ref 42) (.ref q.X))::news
section
variable (w:World)(p:Program)(loose:List Str)(mean:ExcName->Option Value)(mg mb:Str->Option Value)
theorem next_lex (news:List (Addr×Obj))(q:Lex)(T:Int)(tl:Tok)(pn:Nat)(ss:List Value)(sn:Nat)(cs:List Nat)(q' I:Addr)(t:Tok)(hss:StrsAre ss (chrs cs))(hlen:cs.length<=10000)(hT:(cs.count 10:Int)<=T/\T<=100000)
  (ok:LexOk q ((I,itO q' t)::(q',methodObj (.ref 42) (.ref q.X))::news)) (hI:∀p∈news,p.1≠I) (l1:q.PB<q') (l2:q'<I)
  {dp un:Nat} {gd:Option (List Code)} {cn:Str} {sc:Scope} {a:Addr} {ccd:Value} {cl:List (Str×Addr)} {outer:List Env} {A₀:Around} {base h₀:Heap} {L:Addr} {m:Str->Option Value} {s:Shared} {Q:Option Value->Shared->Prop} {E:Value->Shared->Prop}
  (B:Below A₀ base outer h₀) (F:Fr h₀ L s.heap m) (X:(K w.params).In h₀) (N:News h₀ L s.heap (lexLed w q (T-(cs.count 10:Int)) tl [] pn ss sn++(I,itO q' t)::(q',methodObj (.ref 42) (.ref q.X))::news)) (Tp:Top p loose mean mg mb h₀) (hk:sc.kind=.function)
  (pre:CodeHd base 213 209) (hd:dp+14<recursionLimit) (hu:un+50<cLine)
  (hret:∀r news' h' tk',NextR w q T pn q' I t news cs r news'->Fr h₀ L h' m->News h₀ L h' news'->Q r { s with heap:=h',toks:=tk' }):
  wpAny (model Pm w) (ktrTop dp un gd cn sc L a ccd cl outer) (pyNext (.ref I)) Q E s:=by
 have hlen':ss.length<=100000:=by
  have:=StrsAre.length hss
  rw[this];unfold chrs;rw[List.length_map];(walk_at "O")
 have mI:(I,itO q' t)∈lexLed w q (T-(cs.count 10:Int)) tl [] pn ss sn++(I,itO q' t)::(q',methodObj (.ref 42) (.ref q.X))::news:=List.mem_append_right _ (.head _)
 have mq:(q',methodObj (.ref 42) (.ref q.X))∈lexLed w q (T-(cs.count 10:Int)) tl [] pn ss sn++(I,itO q' t)::(q',methodObj (.ref 42) (.ref q.X))::news:=List.mem_append_right _ (.tail _ (.head _))
 have hf:s.heap.get? 42=some (o42 w.params):=(X.keeps F.keep) _ _ (by rfl)
 refine next_live (A:=ktrTop dp un gd cn sc L a ccd cl outer) rfl (N _ mI).1 (N _ mq).1 hf rfl ?_
 refine codeAny_mono (read_charC w p loose mean mg mb _ q (T-(cs.count 10:Int)) tl [] pn ss sn (chrs cs) hss hlen' (by(walk_at "O")) ok dp (un+1) gd cn sc a ccd cl outer A₀ base h₀ L m s (fun _ _=>False) B F X N Tp hk pre (by(walk_at "O")) (by(walk_at "O"))
  (Q:=fun v s'=>∃h' tk' tl' sn' u,s'={ s with heap:=h',toks:=tk' }/\v=.str ((chrs cs).headD Str.empty) u/\Fr h₀ L h' m/\News h₀ L h' (lexLed w q (if (chrs cs).headD Str.empty=ofString "\n" then T-(cs.count 10:Int)+1 else T-(cs.count 10:Int)) tl' [] pn ss.tail sn'++(I,itO q' t)::(q',methodObj (.ref 42) (.ref q.X))::news)) ?_) ?_
 ·first|refine kE3nv ?_|refine kE3vn ?_
  intro tl' sn' u h' tk' F' N'
  exact Uc.ei5 _ _ _ _ _ ⟨rfl,rfl,F',N'⟩
 ·intro r s' z
  cases r with
  |error e=>exact z.elim
  |ok f=>
   cases f with
   |ret v=>
   (refine Uc.ex5 z fun h' tk' tl' sn' u=>Uc.an4 fun e1q e2q F' N'=>?_;clear z;subst e1q;subst e2q)
   have mI':(I,itO q' t)∈lexLed w q (if (chrs cs).headD Str.empty=ofString "\n" then T-(cs.count 10:Int)+1 else T-(cs.count 10:Int)) tl' [] pn ss.tail sn'++(I,itO q' t)::(q',methodObj (.ref 42) (.ref q.X))::news:=List.mem_append_right _ (.head _)
   have mq':(q',methodObj (.ref 42) (.ref q.X))∈lexLed w q (if (chrs cs).headD Str.empty=ofString "\n" then T-(cs.count 10:Int)+1 else T-(cs.count 10:Int)) tl' [] pn ss.tail sn'++(I,itO q' t)::(q',methodObj (.ref 42) (.ref q.X))::news:=List.mem_append_right _ (.tail _ (.head _))
   refine⟨_,u,rfl,(N' _ mI').1,(N' _ mq').1,(X.keeps F'.keep) _ _ (by rfl),?_,?_⟩
   ·intro hne
    cases cs with
    |nil=>exact absurd rfl hne
    |cons c r=>
     cases hss with
     |cons y ty hr=>
      refine hret _ _ _ _ ⟨tl',_,sn',u,rfl,hr,rfl⟩ F' ?_
      have e:=count_ten T c r
      rw[show(chrs (c::r)).headD Str.empty=chr1 c from rfl,e] at N'
      exact N'
   ·intro he h'' hk'' hI''
    cases cs with
    |cons c r=>
     exfalso
     have:(chr1 c).cps.size=(ofString "").cps.size:=congrArg (fun x:Str=>x.cps.size) he
     exact absurd (show(1:Nat)=0 from this) (by decide)
    |nil=>
     cases hss
     have e:(if (chrs []).headD Str.empty=ofString "\n" then T-(([]:List Nat).count 10:Int)+1 else T-(([]:List Nat).count 10:Int))=T-(([]:List Nat).count 10:Int):=if_neg (by decide)
     rw[e] at N'
     have nI:=N' _ mI'
     have o1:=ltN ok.o1
     have o2:=ltN ok.o2
     have o3:=ltN ok.o3
     have o4:=ltN ok.o4
     have o5:=ltN ok.o5
     have o6:=ltN ok.o6
     have o7:=ltN ok.o7
     have o8:=ltN ok.o8
     have l1:=ltN l1
     have l2:=ltN l2
     have F'':Fr h₀ L h'' m:=by
      (refine Uc.ex3 F'.ns fun oL a1 a2=>Uc.an2 fun hoL a3=>?_)
      refine⟨⟨oL,a1,a2,hk'' _ _ nI.2.1.symm hoL,a3⟩,fun b o e=>hk'' _ _ (fun z=>?_) (F'.keep b o e),F'.above⟩
      rw[z] at e
      exact absurd (nI.2.2.symm.trans e) (by simp)
     have ol:=ok.n1
     have NN:∀p∈lexLed w q (T-(([]:List Nat).count 10:Int)) tl' [] pn [] sn',p.1≠I:=by
      have e1:@LT.lt Nat _ q.CC I:=by(walk_at "O")
      have e2:@LT.lt Nat _ q.SG I:=by(walk_at "O")
      have e3:@LT.lt Nat _ q.SF I:=by(walk_at "O")
      have e4:@LT.lt Nat _ q.RC I:=by(walk_at "O")
      have e5:@LT.lt Nat _ q.RF I:=by(walk_at "O")
      have e6:@LT.lt Nat _ q.SD I:=by(walk_at "O")
      have e7:@LT.lt Nat _ q.D I:=by(walk_at "O")
      have e8:@LT.lt Nat _ q.X I:=by(walk_at "O")
      have e9:@LT.lt Nat _ q.PB I:=by(walk_at "O")
      simp only[lexLed,List.forall_mem_cons]
      exact⟨Nat.ne_of_lt e8,Nat.ne_of_lt e7,Nat.ne_of_lt e9,Nat.ne_of_lt e3,Nat.ne_of_lt e6,Nat.ne_of_lt e5,Nat.ne_of_lt e4,Nat.ne_of_lt e1,Nat.ne_of_lt e2,fun _ h=>nomatch h⟩
     refine hret _ _ _ _ ⟨tl',sn',rfl,rfl⟩ F'' (fun p hp=>?_)
     rcases List.mem_append.mp hp with hp|hp
     ·have z:=N' p (List.mem_append_left _ hp)
      exact⟨hk'' _ _ (NN p hp) z.1,z.2⟩
     ·rcases List.mem_cons.mp hp with rfl|hp
      ·exact⟨hI'',nI.2⟩
      ·have z:=N' p (List.mem_append_right _ (.tail _ hp))
       refine⟨hk'' _ _ ?_ z.1,z.2⟩
       rcases List.mem_cons.mp hp with rfl|hp
       ·exact Nat.ne_of_lt l2
       ·exact hI p hp
   |_=>exact z.elim
theorem read_nil (news:List (Addr×Obj))(q:Lex)(T:Int)(tl:Tok)(ps:List Value)(pn:Nat)(ss:List Value)(sn:Nat)(hss:StrsAre ss (chrs []))(hT:0<=T/\T<=100000)(ok:LexOk q news):
  Con w p loose mean mg mb 42 12 40 [.ref q.X] (lexLed w q (T-(([]:List Nat).count 10:Int)) tl ps pn ss sn++news) (fun h=>CodeHd h 213 209) (fun v n=>∃tl' sn' t,n=lexLed w q (T-(([]:List Nat).count 10:Int)) tl' ps pn [] sn'++news/\v=.str ⟨#[]⟩ t):=by
 intro dp un gd cn sc a ccd cl outer A₀ base h₀ L m s Q E a1 a2 a3 a4 a5 a6 a7 a8 a9 a10
 cases hss
 refine(read_charC w p loose mean mg mb news q (T-(([]:List Nat).count 10:Int)) tl ps pn [] sn [] .nil (Nat.zero_le _) (by simp only[List.count_nil];(walk_at "O")) ok).con dp un gd cn sc a ccd cl outer A₀ base h₀ L m s Q E a1 a2 a3 a4 a5 a6 a7 a8 a9 ?_
 first|refine kE3nv ?_|refine kE3vn ?_
 intro tl' sn' t h' tk' F N
 refine a10 _ _ _ _ ⟨tl',sn',t,rfl,rfl⟩ F ?_
 rw[if_neg (by decide)] at N
 exact N
theorem read_cons (news:List (Addr×Obj))(q:Lex)(T:Int)(tl:Tok)(ps:List Value)(pn:Nat)(ss:List Value)(sn:Nat)(c:Nat)(r:List Nat)(hss:StrsAre ss (chrs (c::r)))(hlen:(c::r).length<=10000)(hT:((c::r).count 10:Int)<=T/\T<=100000)(ok:LexOk q news):
  Con w p loose mean mg mb 42 12 40 [.ref q.X] (lexLed w q (T-((c::r).count 10:Int)) tl ps pn ss sn++news) (fun h=>CodeHd h 213 209) (fun v n=>∃tl' ss' sn' t,StrsAre ss' (chrs r)/\n=lexLed w q (T-(r.count 10:Int)) tl' ps pn ss' sn'++news/\v=.str ⟨#[c]⟩ t):=by
 intro dp un gd cn sc a ccd cl outer A₀ base h₀ L m s Q E a1 a2 a3 a4 a5 a6 a7 a8 a9 a10
 have hl:=StrsAre.length hss
 refine(read_charC w p loose mean mg mb news q (T-((c::r).count 10:Int)) tl ps pn ss sn (chrs (c::r)) hss (by rw[hl];unfold chrs;rw[List.length_map];(walk_at "O")) (by(walk_at "O")) ok).con dp un gd cn sc a ccd cl outer A₀ base h₀ L m s Q E a1 a2 a3 a4 a5 a6 a7 a8 a9 ?_
 first|refine kE3nv ?_|refine kE3vn ?_
 intro tl' sn' t h' tk' F N
 cases hss with
 |cons y ty hr=>
  refine a10 _ _ _ _ ⟨tl',_,sn',t,hr,rfl,rfl⟩ F ?_
  have e:=count_ten T c r
  rw[show(chrs (c::r)).headD Str.empty=chr1 c from rfl,e] at N
  exact N
theorem read_any (news:List (Addr×Obj))(q:Lex)(T:Int)(tl:Tok)(ps:List Value)(pn:Nat)(ss:List Value)(sn:Nat)(r:List Nat)(hss:StrsAre ss (chrs r))(hlen:r.length<=10000)(hT:(r.count 10:Int)<=T/\T<=100000)(ok:LexOk q news):
  Con w p loose mean mg mb 42 12 40 [.ref q.X] (lexLed w q (T-(r.count 10:Int)) tl ps pn ss sn++news) (fun h=>CodeHd h 213 209) (fun v n=>∃tl' ss' sn' t,StrsAre ss' (chrs r.tail)/\n=lexLed w q (T-(r.tail.count 10:Int)) tl' ps pn ss' sn'++news/\v=.str ⟨(r.take 1).toArray⟩ t):=by
 cases r with
 |nil=>
  intro dp un gd cn sc a ccd cl outer A₀ base h₀ L m s Q E a1 a2 a3 a4 a5 a6 a7 a8 a9 a10
  refine read_nil w p loose mean mg mb news q T tl ps pn ss sn hss hT ok dp un gd cn sc a ccd cl outer A₀ base h₀ L m s Q E a1 a2 a3 a4 a5 a6 a7 a8 a9 ?_
  first|refine kE3nv ?_|refine kE3vn ?_
  intro tl' sn' t h' tk' F N
  exact a10 _ _ _ _ ⟨tl',[],sn',t,.nil,rfl,rfl⟩ F N
 |cons c r=>exact read_cons w p loose mean mg mb news q T tl ps pn ss sn c r hss hlen hT ok
theorem take1_le (l:List Nat):(⟨(l.take 1).toArray⟩:Str).length<=1:=by
 cases l with
 |nil=>exact Nat.zero_le _
 |cons c l=>exact Nat.le_refl 1
theorem appT (a l:List Nat):(⟨a.toArray⟩:Str)++(⟨(l.take 1).toArray⟩:Str)=⟨(a++l.take 1).toArray⟩:=by
 cases l with
 |nil=>rw[List.take_nil,List.append_nil];exact app0 a
 |cons c l=>exact app1 a c
theorem len_ta (r a:List Nat):r.tail.length+(a++r.take 1).length<=r.length+a.length:=by
 cases r with
 |nil=>rw[List.take_nil,List.append_nil];exact Nat.le_refl _
 |cons c r=>rw[List.length_append];exact Nat.le_of_eq (show r.length+(a.length+1)=r.length+1+a.length by omega)
theorem len_tail (r:List Nat):r.tail.length<=r.length:=by
 cases r with
 |nil=>exact Nat.le_refl _
 |cons c r=>exact Nat.le_succ _
theorem cnt_tail (r:List Nat):r.tail.count 10<=r.count 10:=by
 cases r with
 |nil=>exact Nat.le_refl _
 |cons c r=>exact List.count_le_count_cons
theorem q_ea (r a:List Nat):qGo (92::r) a=qGo r.tail (a++r.take 1):=by
 cases r with
 |nil=>rw[List.take_nil,List.append_nil];rfl
 |cons c r=>exact q_e1 _ _ _
theorem b_ea (r a:List Nat):bGo (92::r) a=bGo r.tail (a++r.take 1):=by
 cases r with
 |nil=>rw[List.take_nil,List.append_nil];rfl
 |cons c r=>exact b_e1 _ _ _
theorem tok_ea (r:List Nat):tokGo (92::r)=bGo r.tail (r.take 1):=by
 cases r with
 |nil=>rfl
 |cons c r=>exact tok_e1 _ _
end
end Uc
end
section
namespace Uc
theorem emp_is:ofString ""=(⟨#[]⟩:Str):=by rfl
set_option genInjectivity false in
set_option genSizeOf false in
structure TS where
 rest:List Nat
 acc:List Nat
 o:Obj
 ss:List Value
 sn:Nat
 tl:Tok
 tt:Tok
theorem nil_app (l:List Nat):(⟨([]:List Nat).toArray⟩:Str)++⟨l.toArray⟩=⟨l.toArray⟩:=by
 show(⟨([]:List Nat).toArray++l.toArray⟩:Str)=_
 simp
theorem nil_app2 (l:List Nat):ofString ""++(⟨l.toArray⟩:Str)=⟨l.toArray⟩:=by
 rw[show ofString ""=(⟨([]:List Nat).toArray⟩:Str) from by rfl]
 exact nil_app l
theorem fpTS {P:TS->Prop}(h:∀a b c d e f g,P ⟨a,b,c,d,e,f,g⟩):∀c,P c:=fun c=>h c.rest c.acc c.o c.ss c.sn c.tl c.tt
noncomputable def tsLed (w:World)(q:Lex)(T:Int)(pn:Nat)(q' I:Addr)(news:List (Addr×Obj))(c:TS):List (Addr×Obj):=lexLed w q (T-(c.rest.count 10:Int)) c.tl [] pn c.ss c.sn++(I,c.o)::(q',methodObj (.ref 42) (.ref q.X))::news
noncomputable def tsNms (q:Lex)(I:Addr)(c:TS):Nms:=[(ofString "token",.str ⟨c.acc.toArray⟩ c.tt),(ofString "fiter",.ref I),(ofString "self",.ref q.X)]
noncomputable def tsLive (T:Int)(q':Addr)(t:Tok)(c:TS):Prop:=c.o=itO q' t/\StrsAre c.ss (chrs c.rest)/\c.rest.length+c.acc.length<=10000/\(c.rest.count 10:Int)<=T
noncomputable def tsDead (c:TS):Prop:=c.o=itE/\c.rest=[]/\c.ss=[]
theorem perm_ab {α:Type}{a b:α}{l n:List α}:∀p∈l++a::b::n,p∈a::b::(l++n):=fun p hp=>by
 rcases List.mem_append.mp hp with hp|hp
 ·exact .tail _ (.tail _ (List.mem_append_left _ hp))
 ·rcases List.mem_cons.mp hp with rfl|hp
  ·exact .head _
  ·rcases List.mem_cons.mp hp with rfl|hp
   ·exact .tail _ (.head _)
   ·exact .tail _ (.tail _ (List.mem_append_right _ hp))
theorem perm_no {α:Type}{a b:α}{l n:List α}:∀p∈l++n,p∈l++a::b::n:=fun p hp=>by
 rcases List.mem_append.mp hp with hp|hp
 ·exact List.mem_append_left _ hp
 ·exact List.mem_append_right _ (.tail _ (.tail _ hp))
theorem ts_turn {w:World}{p:Program}{loose:List Str}{mean:ExcName->Option Value}{mg mb:Str->Option Value}{news:List (Addr×Obj)}{q:Lex}{T:Int}{pn:Nat}{q' I:Addr}{t:Tok}(hT:T<=100000)
  (ok:LexOk q ((I,itO q' t)::(q',methodObj (.ref 42) (.ref q.X))::news)) (hI:∀p∈news,p.1≠I) (l1:q.PB<q') (l2:q'<I)
  {dp un:Nat} {gd:Option (List Code)} {cn:Str} {sc:Scope} {a:Addr} {ccd:Value} {cl:List (Str×Addr)} {outer:List Env} {A₀:Around} {base h₀ h:Heap} {L:Addr} {u:Str->Option Value} {s:Shared} {tk:Tok} {E:Value->Shared->Prop}
  (B:Below A₀ base outer h₀) (X:(K w.params).In h₀) (Tp:Top p loose mean mg mb h₀) (hk:sc.kind=.function)
  (pre:CodeHd base 213 209) (hd:dp+14<recursionLimit) (hu:un+50<cLine) (Y:Value->TS->Prop) (Z:TS->Prop) (c:TS)
  (F:Fr h₀ L h (fm u (tsNms q I c))) (N:News h₀ L h (tsLed w q T pn q' I news c)) (hc:tsLive T q' t c)
  (hZ:c.rest=[]->∀sn tl,Z ⟨[],c.acc,itE,[],sn,tl,c.tt⟩)
  (hY:∀d r,c.rest=d::r->∀ss sn tl v,tsLive T q' t ⟨r,c.acc,itO q' t,ss,sn,tl,c.tt⟩->r.length+c.acc.length+1<=10000->Y (.str (chr1 d) v) ⟨r,c.acc,itO q' t,ss,sn,tl,c.tt⟩):
  wpAny (model Pm w) (ktrTop dp un gd cn sc L a ccd cl outer) (pyNext (.ref I)) (fun r s₂=>match r with
    |none=>Got h₀ L (tsLed w q T pn q' I news) (tsNms q I) Z s s₂
    |some v=>Got h₀ L (tsLed w q T pn q' I news) (tsNms q I) (fun c'=>Y v c'/\c'.rest.length<c.rest.length) s s₂) E { s with heap:=h,toks:=tk }:=by
 obtain⟨rest,acc,o,ss,sn,tl,tt⟩:=c
 (refine Uc.ah4 hc fun h1 h2 h3 h4=>?_;clear hc)
 dsimp only at h1 h2 h3 h4 hZ hY F
 subst h1
 refine next_lex w p loose mean mg mb news q T tl pn ss sn rest q' I t h2 (by(walk_at "O")) ⟨h4,hT⟩ ok hI l1 l2 (s:=⟨_,_,_,_,_⟩) B F X N Tp hk pre hd hu ?_
 intro r news' h' tk' hR F' N'
 cases rest with
 |nil=>
  (refine Uc.ex2 hR fun tl' sn'=>Uc.an2 fun e1q e2q=>?_;clear hR;subst e1q;subst e2q)
  exact⟨⟨[],acc,itE,[],sn',tl',tt⟩,_,h',tk',rfl,F',N',⟨rfl,rfl,rfl,trivial⟩,hZ rfl _ _⟩
 |cons d r=>
  (refine Uc.ex4 hR fun tl' ss' sn' v=>Uc.an3 fun e1q hs e2q=>?_;clear hR;subst e1q;subst e2q)
  have hL:tsLive T q' t ⟨r,acc,itO q' t,ss',sn',tl',tt⟩:=⟨rfl,hs,by rw[List.length_cons] at h3;dsimp only;(walk_at "O"),by
   have:r.count 10<=(d::r).count 10:=List.count_le_count_cons
   (try dsimp only)
   (walk_at "O")⟩
  exact⟨⟨r,acc,itO q' t,ss',sn',tl',tt⟩,_,h',tk',rfl,F',N',⟨rfl,rfl,rfl,trivial⟩,hY d r rfl _ _ _ _ hL (by rw[List.length_cons] at h3;(walk_at "O")),Nat.lt_succ_self _⟩
section
variable (w:World)(p:Program)(loose:List Str)(mean:ExcName->Option Value)(mg mb:Str->Option Value)
theorem get_new (news:List (Addr×Obj))(q:Lex)(T:Int)(tl:Tok)(pn:Nat)(ss:List Value)(sn:Nat)(cs:List Nat)(hss:StrsAre ss (chrs cs))(hlen:cs.length<=10000)(hT:(cs.count 10:Int)<=T/\T<=100000)(ok:LexOk q news):
  Con w p loose mean mg mb 49 20 80 [.ref q.X] (lexLed w q (T-cs.count 10) tl [] pn ss sn++news) (fun h=>CodeHd h 213 209)
   (fun r n=>∃tl' pn' ss' sn' t,n=lexLed w q (T-(tokGo cs).2.count 10) tl' [] pn' ss' sn'++news/\StrsAre ss' (chrs (tokGo cs).2)/\r=.str ⟨(tokGo cs).1.toArray⟩ t):=by
 have o1:=ltN ok.o1
 have o2:=ltN ok.o2
 have o3:=ltN ok.o3
 have o4:=ltN ok.o4
 have o5:=ltN ok.o5
 have o6:=ltN ok.o6
 have o7:=ltN ok.o7
 have o8:=ltN ok.o8
 have n1:=ok.n1
 have n2:=ok.n2
 have n3:=ok.n3
 dsimp only[Con,Pm,lexLed,List.cons_append,List.nil_append]
 k_fill
 (set_option tactic.hygienic true in intros)
 rename_i hret
 refine wpAny_call ?_
 k_dflt cell_enter
 (refine Uc.letAE ?_;intro AA EE)
 repeat' (first|(walk_at "P")|(walk_at "V";first|((with_reducible show ite _ _ _);first|(rw[if_pos (by first|(simp only[decide_eq_true_eq,bne_iff_ne,ne_eq];omega)|(simp only[decide_eq_true_eq];omega))])|(rw[if_neg (by first|(simp only[decide_eq_true_eq,bne_iff_ne,ne_eq];omega)|(simp only[decide_eq_true_eq];omega))]))|(walk_at "T")))
 refine iter_make2 ‹_› ‹_› ‹_› ?_
 intro q' t h' I F' N' lq lI
 repeat' (first|(walk_at "P")|(walk_at "V";(fail_if_success (with_reducible show wpAny _ _ (execs (PySem.Stmt.For _ _ _ _ ⟨24,_,_,_⟩::_) _) _ _ _));walk_at "T"))
 (try dsimp only)
 rename Fr _ _ _ _=>F9
 rename News _ _ _ _=>N8
 have N9:=fun tt:Tok=>News.sub (a:=(I,itO q' t)::(q',methodObj (.ref 42) (.ref q.X))::(lexLed w q (T-(cs.count 10:Int)) tl [] pn ss sn++news)) (b:=tsLed w q T pn q' I news ⟨cs,[],itO q' t,ss,sn,tl,tt⟩) N8 perm_ab
 clear N8
 walk_at "H"
 refine execs_join F9 (tsLed w q T pn q' I news) (tsNms q I) (fun c=>tsDead c/\tokGo cs=(c.acc,[])) ?g1 ?g2
 case g2=>
  refine fpTS fun rest acc o ss sn tl tt=>?_
  intro u h tk hR10z F N
  have h4:=hR10z.2
  (refine Uc.ah3 hR10z.1 fun h1 h2 h3=>?_)
  clear hR10z
  dsimp only at h1 h2 h3 h4 F N ⊢
  subst h1 h2 h3
  walk_at "X"
  rw[h4] at hret
  rename News _ _ _ (tsLed _ _ _ _ _ _ _ _)=>N7
  have N6:=News.sub (b:=lexLed w q (T-(([]:List Nat).count 10:Int)) tl [] pn [] sn++news) N7 (perm_no (l:=lexLed w q (T-(([]:List Nat).count 10:Int)) tl [] pn [] sn) (n:=news))
  exact hret _ _ _ _ (Uc.ei5 tl pn ([]) sn tt ⟨rfl,.nil,rfl⟩) ‹_› N6
 case g1=>
  walk_at "H"
  refine wpAny_For ?_
  walk_at "X"
  have lI2:=ltN lI
  have lq1:q.PB<q':=lq.2.2.1
  have lq2:AllLt q' news:=lq.2.2.2.2.2.2.2.2.2
  have hnI:∀p∈news,p.1≠I:=fun p hp=>Nat.ne_of_lt (Nat.lt_trans (allLt_all lq2 p hp) lI)
  have ok':LexOk q ((I,itO q' t)::(q',methodObj (.ref 42) (.ref q.X))::news):=by
   have o1:=ltN ok.o1
   have o2:=ltN ok.o2
   have o3:=ltN ok.o3
   have o4:=ltN ok.o4
   have o5:=ltN ok.o5
   have o6:=ltN ok.o6
   have o7:=ltN ok.o7
   have o8:=ltN ok.o8
   have lq1:=ltN lq1
   exact { ok with
    n1:=List.forall_mem_cons.mpr ⟨Nat.ne_of_gt (show @LT.lt Nat _ q.D I by(walk_at "O")),List.forall_mem_cons.mpr ⟨Nat.ne_of_gt (show @LT.lt Nat _ q.D q' by(walk_at "O")),ok.n1⟩⟩
    n2:=List.forall_mem_cons.mpr ⟨Nat.ne_of_gt (show @LT.lt Nat _ q.PB I by(walk_at "O")),List.forall_mem_cons.mpr ⟨Nat.ne_of_gt (show @LT.lt Nat _ q.PB q' by(walk_at "O")),ok.n2⟩⟩
    n3:=List.forall_mem_cons.mpr ⟨Nat.ne_of_gt (show @LT.lt Nat _ q.SG I by(walk_at "O")),List.forall_mem_cons.mpr ⟨Nat.ne_of_gt (show @LT.lt Nat _ q.SG q' by(walk_at "O")),ok.n3⟩⟩ }
  refine ci_self ⟨_,(N9 0 _ (List.mem_append_right _ (.head _))).1,rfl⟩ ?_
  refine for_own I (tsLed w q T pn q' I news) (tsNms q I) (fun c=>(tsLive T q' t c/\c.acc=[]/\tokGo cs=tokGo c.rest)∨(tsDead c/\tokGo cs=(c.acc,[])))
   (fun v c=>∃d u,v=.str (chr1 d) u/\tsLive T q' t c/\c.rest.length+c.acc.length+1<=10000/\c.acc=[]/\tokGo cs=tokGo (d::c.rest)) (fun c=>tsDead c/\tokGo cs=(c.acc,[])) (fun c=>c.rest.length) ⟨cs,[],itO q' t,ss,sn,tl,_⟩ rfl rfl F9 (N9 _) ⟨congrArg some (congrArg (Value.str · _) emp_is),rfl,rfl,trivial⟩ ?hp ?turn ?body ?done (by passes_own)
  case hp=>exact .inl ⟨⟨rfl,hss,by show cs.length+0<=_;(walk_at "O"),hT.1⟩,rfl,rfl⟩
  case done=>
   intro c u h tk hZ F N
   walk_at "H";exact GotF.mk c F N (fun _ h=>h) ⟨rfl,rfl,rfl,trivial⟩ hZ
  case turn=>
   rintro c u h tk (⟨hc,ha,ht⟩|⟨hc,ht⟩) F N
   ·refine ts_turn hT.2 ok' hnI lq1 lI ‹_› ‹_› ‹_› (by rfl) ‹_› (by ktr_room) (by ktr_units) _ _ c F N hc ?_ ?_
    ·intro e sn tl
     rw[e] at ht
     exact⟨⟨rfl,rfl,rfl⟩,by rw[ha];exact ht⟩
    ·intro d r e ss sn tl v hl hb
     rw[e] at ht
     exact⟨d,v,rfl,hl,hb,ha,ht⟩
   ·obtain⟨rest,acc,o,ss,sn,tl,tt⟩:=c
    (refine Uc.ah3 hc fun h1 h2 h3=>?_;clear hc)
    dsimp only at h1 h2 h3 ht F N
    subst h1 h2 h3
    refine next_dead rfl (N _ (List.mem_append_right _ (.head _))).1 fun h' hk'=>?_
    exact Uc.ei4 _ _ h' _ ⟨rfl,F.keeps hk',fun p hp=>⟨hk' _ _ (N p hp).1,(N p hp).2⟩,⟨rfl,rfl,rfl,trivial⟩,⟨rfl,rfl,rfl⟩,ht⟩
  case body=>
   refine fpTS fun rest acc o ss sn tl tt=>?_
   intro v u h tk hR11z F N
   (refine Uc.ex2 hR11z fun d u=>Uc.an5 fun e1q w3q hb h5 h6=>?_;clear hR11z;subst e1q);(refine Uc.ah4 w3q fun h1 h2 h3 h4=>?_;clear w3q)
   dsimp only at h1 h2 h3 h4 hb h5 h6 F N ⊢
   subst h1 h5
   dsimp only[tsLed,tsNms,lexLed,List.cons_append,List.nil_append] at F N
   repeat' (first|(walk_at "P")|(walk_at "V";(fail_if_success (with_reducible show wpAny _ _ (execs (PySem.Stmt.If _ _ _ ⟨35,_,_,_⟩::_) _) _ _ _));walk_at "T"))
   ·rename (_==ofString "\"")=true=>hd
    rw[chr1_eq (c:=34) (by rfl),beq_iff_eq] at hd
    rename News _ _ _ _=>N5
    rename Fr _ _ _ _=>F5
    walk_at "H"
    refine wpAny_For ?_
    walk_at "X"
    refine ci_self ⟨_,(N5 (I,itO q' t) (by k_mem)).1,rfl⟩ ?_
    refine for_own I (tsLed w q T pn q' I news) (tsNms q I) (fun c=>tsLive T q' t c/\tokGo cs=qGo c.rest c.acc)
     (fun v c=>∃d u,v=.str (chr1 d) u/\tsLive T q' t c/\c.rest.length+c.acc.length+1<=10000/\tokGo cs=qGo (d::c.rest) c.acc) (fun c=>tsDead c/\tokGo cs=(c.acc,[])) (fun c=>c.rest.length) ⟨rest,[],itO q' t,ss,sn,tl,_⟩ rfl rfl F5 N5 ⟨rfl,rfl,rfl,trivial⟩ ?hpA ?turnA ?bodyA ?doneA (by passes_own)
    case hpA=>exact⟨⟨rfl,h2,by(try simp only[List.length_append,List.length_cons,List.length_nil]);dsimp only[List.length_nil,List.length_cons] at*;(walk_at "O"),h4⟩,by rw[h6,hd,tok_q]⟩
    case doneA=>
     refine fpTS fun rest acc o ss sn tl tt=>?_
     intro u h tk hR1z F N
     have h4:=hR1z.2
     (refine Uc.ah3 hR1z.1 fun h1 h2 h3=>?_)
     clear hR1z
     dsimp only at h1 h2 h3 h4 F N ⊢
     subst h1 h2 h3
     walk_at "X"
     walk_at "H";exact Got.mk ⟨[],acc,itE,[],sn,tl,tt⟩ ‹_› ‹_› (fun _ h=>h) ⟨rfl,rfl,rfl,trivial⟩ ⟨.inr ⟨⟨rfl,rfl,rfl⟩,h4⟩,Nat.zero_le _⟩
    case turnA=>
     intro c u h tk hR2z F N
     have hc:=hR2z.1
     have ht:=hR2z.2
     clear hR2z
     refine ts_turn hT.2 ok' hnI lq1 lI ‹_› ‹_› ‹_› (by rfl) ‹_› (by ktr_room) (by ktr_units) _ _ c F N hc ?_ ?_
     ·intro e sn tl
      rw[e] at ht
      exact⟨⟨rfl,rfl,rfl⟩,ht⟩
     ·intro d r e ss sn tl v hl hb
      rw[e] at ht
      exact⟨d,v,rfl,hl,hb,ht⟩
    case bodyA=>
     refine fpTS fun rest acc o ss sn tl tt=>?_
     intro v u h tk hR3z F N
     (refine Uc.ex2 hR3z fun d u=>Uc.an4 fun e1q w4q hb h6=>?_;clear hR3z;subst e1q);(refine Uc.ah4 w4q fun h1 h2 h3 h4=>?_;clear w4q)
     dsimp only at h1 h2 h3 h4 hb h6 F N ⊢
     subst h1
     dsimp only[tsLed,tsNms,lexLed,List.cons_append,List.nil_append] at F N
     repeat' (first|(walk_at "P")|(walk_at "V";first|((with_reducible show wpAny _ _ (inplaceOp _ _ _) _ _ _);(dsimp only;(with_reducible show wpAny _ _ (inplaceOp Operator.Add (Value.str _ _) (Value.str _ _)) _ _ _);(refine SB.iadd ?_ (by first|exact Uc.add_fits (by(walk_at "O")) (Uc.take1_le _)|exact Uc.add_fits (by(walk_at "O")) (by rfl)|exact Uc.add_fits (by(walk_at "O")) (Nat.le_refl _)|exact Uc.add_fits (by(walk_at "O")) (Nat.zero_le _)));intro _ _;(first|rw[Uc.appT]|rw[Uc.app1]|rw[Uc.app1c]|rw[Uc.app0])))|(walk_at "T")))
     ·rename (chr1 d==ofString "\"")=true=>hc
      rw[chr1_eq (c:=34) (by rfl),beq_iff_eq] at hc
      rw[hc,q_q] at h6
      (try dsimp only)
      walk_at "H"
      refine GotF.ret ?_
      walk_at "H"
      walk_at "X"
      rename News _ _ _ _=>N7
      have N6:=News.sub (b:=lexLed w q (T-(rest.count 10:Int)) tl [] pn ss sn++news) N7 (perm_no (l:=lexLed w q (T-(rest.count 10:Int)) tl [] pn ss sn) (n:=news))
      rw[h6] at hret
      exact hret _ _ _ _ (Uc.ei5 tl pn ss sn tt ⟨rfl,h2,rfl⟩) ‹_› N6
     ·rename (chr1 d==ofString "\\")=true=>hc
      rw[chr1_eq (c:=92) (by rfl),beq_iff_eq] at hc
      (refine read_any w p loose mean mg mb ((I,itO q' t)::(q',methodObj (.ref 42) (.ref q.X))::news) q T tl [] pn ss sn rest h2 (by(walk_at "O")) ⟨h4,hT.2⟩ ok' _ _ _ _ _ _ _ _ _ _ _ _ _ _ _ _ _ ‹_› ‹_› ‹_› ‹_› ‹_› (by first|assumption|rfl) ?pre (by walk_at "r") (by walk_at "u") ?_);(case pre=>first|exact trivial|assumption)
      first|refine kE4pnv ?_|refine kE4pvn ?_
      intro tl' ss' sn' u' h' tk' hs' F N
      dsimp only[lexLed,List.cons_append,List.nil_append] at N
      repeat' (first|(walk_at "P")|(walk_at "V";first|((with_reducible show wpAny _ _ (inplaceOp _ _ _) _ _ _);(dsimp only;(with_reducible show wpAny _ _ (inplaceOp Operator.Add (Value.str _ _) (Value.str _ _)) _ _ _);(refine SB.iadd ?_ (by first|exact Uc.add_fits (by(walk_at "O")) (Uc.take1_le _)|exact Uc.add_fits (by(walk_at "O")) (by rfl)|exact Uc.add_fits (by(walk_at "O")) (Nat.le_refl _)|exact Uc.add_fits (by(walk_at "O")) (Nat.zero_le _)));intro _ _;(first|rw[Uc.appT]|rw[Uc.app1]|rw[Uc.app1c]|rw[Uc.app0])))|(walk_at "T")))
      have h4':(rest.tail.count 10:Int)<=T:=Int.le_trans (Int.ofNat_le.mpr (cnt_tail rest)) h4
      walk_at "H";exact Got.mk ⟨rest.tail,acc++rest.take 1,itO q' t,ss',sn',tl',_⟩ ‹_› ‹_› (fun _ h=>h) ⟨rfl,rfl,rfl,trivial⟩ ⟨⟨⟨rfl,hs',Nat.le_trans (len_ta rest acc) (by(walk_at "O")),h4'⟩,by rw[h6,hc];exact q_ea _ _⟩,len_tail rest⟩
     ·rename (chr1 d==ofString "\"")=false=>hc
      rename (chr1 d==ofString "\\")=false=>hc2
      rw[chr1_eq (c:=34) (by rfl),beq_eq_false_iff_ne] at hc
      rw[chr1_eq (c:=92) (by rfl),beq_eq_false_iff_ne] at hc2
      rw[q_b hc hc2] at h6
      (try dsimp only)
      walk_at "H";exact Got.mk ⟨rest,acc++[d],itO q' t,ss,sn,tl,_⟩ ‹_› ‹_› (fun _ h=>h) ⟨rfl,rfl,rfl,trivial⟩ ⟨⟨⟨rfl,h2,by simp only[List.length_append,List.length_cons,List.length_nil] at*;(walk_at "O"),h4⟩,h6⟩,Nat.le_refl _⟩
   ·rename (List.isEmpty _)=true=>hw
    rename (chr1 d==ofString "\"")=false=>hc
    rw[ws_occ,Bool.not_eq_true'] at hw
    rw[chr1_eq (c:=34) (by rfl),beq_eq_false_iff_ne] at hc
    (try dsimp only)
    rename Fr _ _ _ _=>F4
    walk_at "H"
    refine execs_join F4 (σ:=TS) (tsLed w q T pn q' I news) (fun c=>[(ofString "ch",.str ⟨c.acc.toArray⟩ c.tt),(ofString "token",.str ⟨([]:List Nat).toArray⟩ tt),(ofString "fiter",.ref I),(ofString "self",.ref q.X)]) (fun c=>tsLive T q' t c/\c.acc.length<=1/\tokGo cs=bGo c.rest c.acc) ?j1 ?j2
    case j1=>
     walk_at "X"
     ·rename (chr1 d==ofString "\\")=true=>hc2
      rw[chr1_eq (c:=92) (by rfl),beq_iff_eq] at hc2
      (refine read_any w p loose mean mg mb ((I,itO q' t)::(q',methodObj (.ref 42) (.ref q.X))::news) q T tl [] pn ss sn rest h2 (by(walk_at "O")) ⟨h4,hT.2⟩ ok' _ _ _ _ _ _ _ _ _ _ _ _ _ _ _ _ _ ‹_› ‹_› ‹_› ‹_› ‹_› (by first|assumption|rfl) ?pre (by walk_at "r") (by walk_at "u") ?_);(case pre=>first|exact trivial|assumption)
      first|refine kE4pnv ?_|refine kE4pvn ?_
      intro tl' ss' sn' u' h' tk' hs' F N
      dsimp only[lexLed,List.cons_append,List.nil_append] at N
      walk_at "X"
      have h4':(rest.tail.count 10:Int)<=T:=Int.le_trans (Int.ofNat_le.mpr (cnt_tail rest)) h4
      walk_at "H";exact GotF.mk ⟨rest.tail,rest.take 1,itO q' t,ss',sn',tl',_⟩ ‹_› ‹_› (fun _ h=>h) ⟨rfl,rfl,rfl,rfl,trivial⟩ ⟨⟨rfl,hs',Nat.le_trans (len_ta rest []) (by dsimp only[List.length_nil] at*;(walk_at "O")),h4'⟩,List.length_take_le 1 rest,by rw[h6,hc2];exact tok_ea _⟩
     ·rename (chr1 d==ofString "\\")=false=>hc2
      rw[chr1_eq (c:=92) (by rfl),beq_eq_false_iff_ne] at hc2
      (try dsimp only)
      walk_at "H";exact GotF.mk ⟨rest,[d],itO q' t,ss,sn,tl,_⟩ ‹_› ‹_› (fun _ h=>h) ⟨rfl,rfl,rfl,rfl,trivial⟩ ⟨⟨rfl,h2,by(try simp only[List.length_append,List.length_cons,List.length_nil]);dsimp only[List.length_nil,List.length_cons] at*;(walk_at "O"),h4⟩,Nat.le_refl _,by rw[h6,tok_b hw hc hc2]⟩
    case j2=>
     clear F4
     clear h2 h3 h4 h6 hw hc
     intro hR4z u2 h tk hRz F N
     obtain⟨rest,acc,o,ss,sn,tl,tu⟩:=hR4z
     (refine Uc.ah3 hRz fun w5q h5 h6=>?_;clear hRz);(refine Uc.ah4 w5q fun h1 h2 h3 h4=>?_;clear w5q)
     dsimp only at h1 h2 h3 h4 h5 h6 F N ⊢
     subst h1
     dsimp only[tsLed,lexLed,List.cons_append,List.nil_append] at F N
     repeat' (first|(walk_at "P")|(walk_at "V";(fail_if_success (with_reducible show wpAny _ _ (execs (PySem.Stmt.For _ _ _ _ ⟨37,_,_,_⟩::_) _) _ _ _));walk_at "T"))
     rename Fr _ _ _ _=>F6
     rw[nil_app2 acc] at F6
     rename News _ _ _ _=>N5
     rename Fr _ _ _ _=>F5
     walk_at "H"
     refine wpAny_For ?_
     walk_at "X"
     refine ci_self ⟨_,(N5 (I,itO q' t) (by k_mem)).1,rfl⟩ ?_
     refine for_own I (tsLed w q T pn q' I news) (tsNms q I) (fun c=>tsLive T q' t c/\tokGo cs=bGo c.rest c.acc)
      (fun v c=>∃d u,v=.str (chr1 d) u/\tsLive T q' t c/\c.rest.length+c.acc.length+1<=10000/\tokGo cs=bGo (d::c.rest) c.acc) (fun c=>tsDead c/\tokGo cs=(c.acc,[])) (fun c=>c.rest.length) ⟨rest,acc,itO q' t,ss,sn,tl,_⟩ rfl rfl F5 N5 ⟨rfl,rfl,rfl,trivial⟩ ?hpB ?turnB ?bodyB ?doneB (by passes_own)
     case hpB=>exact⟨⟨rfl,h2,by(try simp only[List.length_append,List.length_cons,List.length_nil]);dsimp only[List.length_nil,List.length_cons] at*;(walk_at "O"),h4⟩,h6⟩
     case doneB=>
      refine fpTS fun rest acc o ss sn tl tt=>?_
      intro u h tk hR5z F N
      have h4:=hR5z.2
      (refine Uc.ah3 hR5z.1 fun h1 h2 h3=>?_)
      clear hR5z
      dsimp only at h1 h2 h3 h4 F N ⊢
      subst h1 h2 h3
      walk_at "X"
      walk_at "H";exact Got.mk ⟨[],acc,itE,[],sn,tl,tt⟩ ‹_› ‹_› (fun _ h=>h) ⟨rfl,rfl,rfl,trivial⟩ ⟨.inr ⟨⟨rfl,rfl,rfl⟩,h4⟩,Nat.zero_le _⟩
     case turnB=>
      intro c u h tk hR6z F N
      have hc:=hR6z.1
      have ht:=hR6z.2
      clear hR6z
      refine ts_turn hT.2 ok' hnI lq1 lI ‹_› ‹_› ‹_› (by rfl) ‹_› (by ktr_room) (by ktr_units) _ _ c F N hc ?_ ?_
      ·intro e sn tl
       rw[e] at ht
       exact⟨⟨rfl,rfl,rfl⟩,ht⟩
      ·intro d r e ss sn tl v hl hb
       rw[e] at ht
       exact⟨d,v,rfl,hl,hb,ht⟩
     case bodyB=>
      refine fpTS fun rest acc o ss sn tl tt=>?_
      intro v u h tk hR7z F N
      (refine Uc.ex2 hR7z fun d u=>Uc.an4 fun e1q w6q hb h6=>?_;clear hR7z;subst e1q);(refine Uc.ah4 w6q fun h1 h2 h3 h4=>?_;clear w6q)
      dsimp only at h1 h2 h3 h4 hb h6 F N ⊢
      subst h1
      dsimp only[tsLed,tsNms,lexLed,List.cons_append,List.nil_append] at F N
      repeat' (first|(walk_at "P")|(walk_at "V";first|((with_reducible show wpAny _ _ (inplaceOp _ _ _) _ _ _);(dsimp only;(with_reducible show wpAny _ _ (inplaceOp Operator.Add (Value.str _ _) (Value.str _ _)) _ _ _);(refine SB.iadd ?_ (by first|exact Uc.add_fits (by(walk_at "O")) (Uc.take1_le _)|exact Uc.add_fits (by(walk_at "O")) (by rfl)|exact Uc.add_fits (by(walk_at "O")) (Nat.le_refl _)|exact Uc.add_fits (by(walk_at "O")) (Nat.zero_le _)));intro _ _;(first|rw[Uc.appT]|rw[Uc.app1]|rw[Uc.app1c]|rw[Uc.app0])))|(walk_at "T")))
      ·rename (chr1 d==ofString "\\")=true=>hc
       rw[chr1_eq (c:=92) (by rfl),beq_iff_eq] at hc
       (refine read_any w p loose mean mg mb ((I,itO q' t)::(q',methodObj (.ref 42) (.ref q.X))::news) q T tl [] pn ss sn rest h2 (by(walk_at "O")) ⟨h4,hT.2⟩ ok' _ _ _ _ _ _ _ _ _ _ _ _ _ _ _ _ _ ‹_› ‹_› ‹_› ‹_› ‹_› (by first|assumption|rfl) ?pre (by walk_at "r") (by walk_at "u") ?_);(case pre=>first|exact trivial|assumption)
       first|refine kE4pnv ?_|refine kE4pvn ?_
       intro tl' ss' sn' u' h' tk' hs' F N
       dsimp only[lexLed,List.cons_append,List.nil_append] at N
       repeat' (first|(walk_at "P")|(walk_at "V";first|((with_reducible show wpAny _ _ (inplaceOp _ _ _) _ _ _);(dsimp only;(with_reducible show wpAny _ _ (inplaceOp Operator.Add (Value.str _ _) (Value.str _ _)) _ _ _);(refine SB.iadd ?_ (by first|exact Uc.add_fits (by(walk_at "O")) (Uc.take1_le _)|exact Uc.add_fits (by(walk_at "O")) (by rfl)|exact Uc.add_fits (by(walk_at "O")) (Nat.le_refl _)|exact Uc.add_fits (by(walk_at "O")) (Nat.zero_le _)));intro _ _;(first|rw[Uc.appT]|rw[Uc.app1]|rw[Uc.app1c]|rw[Uc.app0])))|(walk_at "T")))
       have h4':(rest.tail.count 10:Int)<=T:=Int.le_trans (Int.ofNat_le.mpr (cnt_tail rest)) h4
       walk_at "H";exact Got.mk ⟨rest.tail,acc++rest.take 1,itO q' t,ss',sn',tl',_⟩ ‹_› ‹_› (fun _ h=>h) ⟨rfl,rfl,rfl,trivial⟩ ⟨⟨⟨rfl,hs',Nat.le_trans (len_ta rest acc) (by(walk_at "O")),h4'⟩,by rw[h6,hc];exact b_ea _ _⟩,len_tail rest⟩
      ·rename (List.isEmpty _)=true=>hc
       rename (chr1 d==ofString "\\")=false=>hc2
       rw[ws_occ,Bool.not_eq_true'] at hc
       rw[chr1_eq (c:=92) (by rfl),beq_eq_false_iff_ne] at hc2
       rw[b_b hc hc2] at h6
       (try dsimp only)
       walk_at "H";exact Got.mk ⟨rest,acc++[d],itO q' t,ss,sn,tl,_⟩ ‹_› ‹_› (fun _ h=>h) ⟨rfl,rfl,rfl,trivial⟩ ⟨⟨⟨rfl,h2,by simp only[List.length_append,List.length_cons,List.length_nil] at*;(walk_at "O"),h4⟩,h6⟩,Nat.le_refl _⟩
      ·rename (List.isEmpty _)=false=>hc
       rw[ws_occ,Bool.not_eq_false'] at hc
       rw[b_w hc] at h6
       (try dsimp only)
       walk_at "H"
       refine GotF.ret ?_
       walk_at "H"
       walk_at "X"
       rename News _ _ _ _=>N7
       have N6:=News.sub (b:=lexLed w q (T-(rest.count 10:Int)) tl [] pn ss sn++news) N7 (perm_no (l:=lexLed w q (T-(rest.count 10:Int)) tl [] pn ss sn) (n:=news))
       rw[h6] at hret
       exact hret _ _ _ _ (Uc.ei5 tl pn ss sn tt ⟨rfl,h2,rfl⟩) ‹_› N6
   ·rename (List.isEmpty _)=false=>hw
    rw[ws_occ,Bool.not_eq_false'] at hw
    (try dsimp only)
    walk_at "H";exact Got.mk ⟨rest,[],itO q' t,ss,sn,tl,tt⟩ ‹_› ‹_› (fun _ h=>h) ⟨rfl,rfl,rfl,trivial⟩ ⟨.inl ⟨⟨rfl,h2,h3,h4⟩,rfl,by rw[h6,tok_ws hw]⟩,Nat.le_refl _⟩
end
end Uc
end
section
namespace Uc
section
variable (w:World)(p:Program)(loose:List Str)(mean:ExcName->Option Value)(mg mb:Str->Option Value)
theorem push_c (news:List (Addr×Obj))(q:Lex)(ln:Int)(tl:Tok)(ps:List Value)(pn:Nat)(ss:List Value)(sn:Nat)(v:Value)(hlen:ps.length<=1000)(ok:LexOk q news):
  Con w p loose mean mg mb 56 12 40 [.ref q.X,v] (lexLed w q ln tl ps pn ss sn++news) (fun h=>CodeHd h 213 209) (fun r n=>∃pn',n=lexLed w q ln tl (ps++[v]) pn' ss sn++news/\r=.none):=by
 have o1:=ltN ok.o1
 have o2:=ltN ok.o2
 have o3:=ltN ok.o3
 have o4:=ltN ok.o4
 have o5:=ltN ok.o5
 have o6:=ltN ok.o6
 have o7:=ltN ok.o7
 have o8:=ltN ok.o8
 have n1:=ok.n1
 have n2:=ok.n2
 have n3:=ok.n3
 dsimp only[Con,Pm,lexLed,List.cons_append,List.nil_append]
 k_fill
 (set_option tactic.hygienic true in intros)
 rename_i hret
 refine wpAny_call ?_
 k_dflt cell_enter
 (refine Uc.letAE ?_;intro AA EE)
 repeat' (first|(walk_at "P")|(walk_at "V";first|((with_reducible show wpAny _ _ (callWith _ (Value.builtin _) _ _ _) _ _ _);dsimp only;first|((with_reducible show wpAny _ _ (callWith _ (Value.builtin "list.append") _ _ _) _ _ _);refine callWith_method1 ?_)|((with_reducible show wpAny _ _ (callWith _ (Value.builtin "str.join") _ _ _) _ _ _);refine callWith_method1 ?_))|(walk_at "T")))
 rename News _ _ _ (_::_::_::_::_::_::_::_::_::news)=>N1
 try simp only[List.push_toArray] at N1
 exact hret _ _ _ _ ⟨_,rfl,rfl⟩ ‹_› N1
theorem get_pushed (news:List (Addr×Obj))(q:Lex)(ln:Int)(tl:Tok)(v:Value)(ps:List Value)(pn:Nat)(ss:List Value)(sn:Nat)(hlen:ps.length<=1000)(ok:LexOk q news):
  Con w p loose mean mg mb 49 16 60 [.ref q.X] (lexLed w q ln tl (v::ps) pn ss sn++news) (fun h=>CodeHd h 213 209) (fun r n=>∃pn',n=lexLed w q ln tl ps pn' ss sn++news/\r=v):=by
 have o1:=ltN ok.o1
 have o2:=ltN ok.o2
 have o3:=ltN ok.o3
 have o4:=ltN ok.o4
 have o5:=ltN ok.o5
 have o6:=ltN ok.o6
 have o7:=ltN ok.o7
 have o8:=ltN ok.o8
 have n1:=ok.n1
 have n2:=ok.n2
 have n3:=ok.n3
 dsimp only[Con,Pm,lexLed,List.cons_append,List.nil_append]
 k_fill
 (set_option tactic.hygienic true in intros)
 rename_i hret
 refine wpAny_call ?_
 k_dflt cell_enter
 (refine Uc.letAE ?_;intro AA EE)
 walk_at "X"
 have hl:(v::ps).length<=1001:=by rw[List.length_cons];(walk_at "O")
 have hsz:(v::ps).length<=sizeLine:=Nat.le_trans hl (by decide)
 rename News _ _ _ _=>N1
 refine wpAny_truthy_list (News.isList N1 (by k_mem)) (by rw[List.size_toArray];(walk_at "O")) ?_
 rw[show(!(v::ps).toArray.isEmpty)=true from rfl]
 walk_at "X"
 refine kl_popAt (its:=(v::ps).toArray) (k:=0) (p:=[]) (q:=ps) ‹_› ‹_› rfl (by rw[List.size_toArray];simp[seqIndex?]) rfl (by k_dflt k_upd) hsz ?_
 intro h' F' N'
 dsimp only[List.nil_append] at N'
 walk_at "X"
 exact hret _ _ _ _ ⟨_,rfl,rfl⟩ ‹_› ‹_›
end
end Uc
end
section
namespace Uc
noncomputable def bases:List Nat:=[97,119808,119860,119912,120172,120224,120276,120328,120380,120432]
noncomputable def spell:Nat->List Nat->Nat->List Nat
 |0,_,_=>[]
 |_,[],_=>[]
 |k+1,c::r,rest=>
  let p:=(c::r).take (3-rest%3)
  if p=[102,102,105] then 64259::spell k ((c::r).drop 3) (rest / 30)
  else if p=[102,102] then 64256::spell k ((c::r).drop 2) (rest / 30)
  else if p=[102,105] then 64257::spell k ((c::r).drop 2) (rest / 30)
  else(if c=70∨c=73 then c else bases.getD (rest / 3%10) 97+c-97)::spell k r (rest / 30)
noncomputable def typedOf (t:List Nat)(n:Nat):List Nat:=spell t.length t n
noncomputable def b1S:List Nat:=[173,847,6150,6155,6156,6157,8203,8204,8205,8288,65279]
noncomputable def signOf (n:Nat):Nat:=if n%27<11 then b1S.getD (n%27) 0 else 65013+n%27
noncomputable def rawOf (t:List Nat)(n:Nat):List Nat:=let y:=typedOf t n;let p:=n / 27%(y.length+1);y.take p++signOf n::y.drop p
noncomputable def quoted (raw:List Nat)(n:Nat):List Nat:=if n / 7%3=0 then 34::92::raw++[34] else if n / 7%3=1 then(raw.map fun c=>[92,c]).flatten else raw
noncomputable def wsS:List Nat:=[32,10,9,13]
noncomputable def spelled (t:List Nat)(n:Nat):List Nat:=quoted (rawOf t n) n++[wsS.getD (n / 21%4) 0]
theorem slice_take (l:List Nat)(k:Nat)(z:Int)(hz:z=(k:Int)):Txt.slice ⟨l.toArray⟩ none (some z)=⟨(l.take k).toArray⟩:=by
 subst hz
 rw[slT]
theorem slice_drop (l:List Nat)(k:Nat)(z:Int)(hz:z=(k:Int)):Txt.slice ⟨l.toArray⟩ (some z) none=⟨(l.drop k).toArray⟩:=by
 subst hz
 rw[slF]
theorem spell_eq (k c:Nat)(t:List Nat)(r:Nat):spell (k+1) (c::t) r=if (c::t).take (3-r%3)=[102,102,105] then 64259::spell k ((c::t).drop 3) (r / 30)
  else if (c::t).take (3-r%3)=[102,102] then 64256::spell k ((c::t).drop 2) (r / 30)
  else if (c::t).take (3-r%3)=[102,105] then 64257::spell k ((c::t).drop 2) (r / 30)
  else(if c=70∨c=73 then c else bases.getD (r / 3%10) 97+c-97)::spell k t (r / 30):=rfl
theorem base_eq (r:Nat):([97,119808,119860,119912,120172,120224,120276,120328,120380,120432]:List Int).getD (((r:Int).fdiv 3).fmod 10).toNat 0=((bases.getD (r / 3%10) 97:Nat):Int):=by
 have e:(((r:Int).fdiv 3).fmod 10).toNat=r / 3%10:=by
  rw[Int.fdiv_eq_ediv_of_nonneg _ (by decide),Int.fmod_eq_emod_of_nonneg _ (by decide)]
  (walk_at "O")
 rw[e]
 have h:r / 3%10<10:=Nat.mod_lt _ (by decide)
 generalize r / 3%10=z at h
 revert z
 decide+kernel
theorem base_in (r:Nat):bases.getD (r / 3%10) 97∈bases:=by
 have h:r / 3%10<10:=Nat.mod_lt _ (by decide)
 generalize r / 3%10=z at h
 revert z
 decide+kernel
theorem base_rng {b:Nat}(h:b∈bases):97<=b/\b<=120432:=by
 revert b
 decide
theorem fi_occ {c:Nat}(h:c=102∨c=105∨c=70∨c=73):(Builtin.Str.occurrences (ofString "FI") (chr1 c) 0 (ofString "FI").length 1).isEmpty= !(decide (c=70∨c=73)):=by
 rcases h with rfl|rfl|rfl|rfl<;>decide+kernel
theorem fdiv_nat (r k:Nat):(r:Int).fdiv (k:Int)=((r / k:Nat):Int):=by
 rw[Int.fdiv_eq_ediv_of_nonneg _ (by(walk_at "O"))];rfl
theorem fmod_nat (r k:Nat):(r:Int).fmod (k:Int)=((r%k:Nat):Int):=by
 rw[Int.fmod_eq_emod_of_nonneg _ (by(walk_at "O"))];rfl
theorem no_lig {P:List Nat}(h1:¬ P=[102,102,105])(h2:¬ P=[102,102])(h3:¬ P=[102,105]):([ofString "ffi",ofString "ff",ofString "fi"].any fun x=>x==(⟨P.toArray⟩:Str))=false:=by
 rw[show ofString "ffi"=(⟨[102,102,105].toArray⟩:Str) from by rfl,show ofString "ff"=(⟨[102,102].toArray⟩:Str) from by rfl,show ofString "fi"=(⟨[102,105].toArray⟩:Str) from by rfl]
 have ne:∀Q:List Nat,¬ P=Q->((⟨Q.toArray⟩:Str)==(⟨P.toArray⟩:Str))=false:=fun Q h=>by
  rw[beq_eq_false_iff_ne]
  intro e
  injection e with e
  exact h (by simpa using e.symm)
 simp only[List.any_cons,List.any_nil,ne _ h1,ne _ h2,ne _ h3,Bool.or_false]
theorem strs_snoc {vs:List Value}{y:List Nat}{d:Nat}{t:Tok}(h:StrsAre vs (chrs y)):StrsAre (vs++[.str (chr1 d) t]) (chrs (y++[d])):=by
 unfold chrs at h ⊢
 rw[List.map_append]
 exact StrsAre.append' h (.cons _ _ .nil)
theorem strs_snoc' {vs:List Value}{y:List Nat}{d:Nat}{t:Tok}{x:Str}(h:StrsAre vs (chrs y))(e:x=chr1 d):StrsAre (vs++[.str x t]) (chrs (y++[d])):=e▸strs_snoc h
theorem chrs_sum:∀l:List Nat,((chrs l).map (·.length)).sum=l.length
 | []=>rfl
 |c::l=>by
  have:=chrs_sum l
  unfold chrs at this ⊢
  rw[List.map_cons,List.map_cons,List.sum_cons,this,List.length_cons]
  show 1+_=_
  (walk_at "O")
theorem chrs_w {l:List Nat}(h:l.length<=10000):((chrs l).map (·.length)).sum+(chrs l).length<=1048576:=by
 rw[chrs_sum]
 unfold chrs
 rw[List.length_map]
 (walk_at "O")
theorem app2 (a b:List Nat):(⟨a.toArray⟩:Str)++(⟨b.toArray⟩:Str)=⟨(a++b).toArray⟩:=by
 show(⟨a.toArray++b.toArray⟩:Str)=_
 simp
theorem join_chrs (l:List Nat):Txt.join (ofString "") (chrs l)=⟨l.toArray⟩:=by
 rw[show Txt.join (ofString "") (chrs l)=Str.join (ofString "") (chrs l) from eq_of_beq (join_plain_closes _ _)]
 induction l with
 |nil=>rfl
 |cons c l ih=>
  cases l with
  |nil=>rfl
  |cons d l=>
   show chr1 c++ofString ""++Str.join (ofString "") (chrs (d::l))=_
   rw[ih,show ofString ""=(⟨([]:List Nat).toArray⟩:Str) from by rfl,show chr1 c=(⟨[c].toArray⟩:Str) from rfl,app2,app2]
   rfl
theorem add_fits2 {a b:List Nat}(h:a.length<=20000)(h':b.length<=20000):(⟨a.toArray⟩:Str).length+(⟨b.toArray⟩:Str).length<=sizeLine:=by
 have e:∀a:List Nat,(⟨a.toArray⟩:Str).length=a.length:=fun a=>by show a.toArray.size=_;simp
 rw[e,e,sizeLine_eq]
 (walk_at "O")
theorem sign_lo (n:Nat)(h:(n:Int).fmod 27<11):Txt.item (ofString "\u00ad\u034f\u1806\u180b\u180c\u180d\u200b\u200c\u200d\u2060\ufeff") ((n:Int).fmod 27)=⟨[signOf n].toArray⟩:=by
 have e:(n:Int).fmod 27=((n%27:Nat):Int):=fmod_nat n 27
 rw[e] at h ⊢
 unfold signOf
 have h':n%27<11:=by(walk_at "O")
 rw[if_pos h']
 generalize n%27=z at h'
 clear h
 revert z
 decide+kernel
theorem sign_hi (n:Nat)(h:¬ (n:Int).fmod 27<11):(⟨#[(65013+(n:Int).fmod 27).toNat]⟩:Str)=⟨[signOf n].toArray⟩:=by
 have e:(n:Int).fmod 27=((n%27:Nat):Int):=fmod_nat n 27
 rw[e] at h ⊢
 unfold signOf
 rw[if_neg (by(walk_at "O"))]
 exact congrArg (fun z:Nat=>(⟨#[z]⟩:Str)) (by(walk_at "O"))
theorem appQ1 (b:List Nat):ofString "\"\\"++(⟨b.toArray⟩:Str)=⟨(34::92::b).toArray⟩:=by
 rw[show ofString "\"\\"=(⟨[34,92].toArray⟩:Str) from by rfl,app2];rfl
theorem appQ2 (a:List Nat):(⟨a.toArray⟩:Str)++ofString "\""=⟨(a++[34]).toArray⟩:=by
 rw[show ofString "\""=(⟨[34].toArray⟩:Str) from by rfl,app2]
theorem appB (b:List Nat):ofString "\\"++(⟨b.toArray⟩:Str)=⟨(92::b).toArray⟩:=by
 rw[show ofString "\\"=(⟨[92].toArray⟩:Str) from by rfl,app2];rfl
theorem ws_item (n:Nat):Txt.item (ofString " \n\t\r") (((n:Int).fdiv 21).fmod 4)=⟨[wsS.getD (n / 21%4) 0].toArray⟩:=by
 have e:((n:Int).fdiv 21).fmod 4=((n / 21%4:Nat):Int):=(congrArg (Int.fmod · 4) (fdiv_nat n 21)).trans (fmod_nat _ 4)
 rw[e]
 have h:n / 21%4<4:=Nat.mod_lt _ (by decide)
 generalize n / 21%4=z at h
 revert z
 decide+kernel
theorem fits_c {x y:Str}(h:x.length<=10)(h':y.length<=20000):x.length+y.length<=sizeLine:=by rw[sizeLine_eq];(walk_at "O")
theorem len_mk (a:List Nat):(⟨a.toArray⟩:Str).length=a.length:=by show a.toArray.size=_;simp
theorem raw_len {x:List Nat}{n b:Nat}(h:(typedOf x n).length<=b):(rawOf x n).length<=b+1:=by
 unfold rawOf
 rw[List.length_append,List.length_cons,List.length_take,List.length_drop]
 generalize n / 27%((typedOf x n).length+1)=k
 have h2:min k (typedOf x n).length+((typedOf x n).length-k)<=(typedOf x n).length:=(Nat.le_total k (typedOf x n).length).elim (fun q=>by rw[Nat.min_eq_left q,Nat.add_sub_cancel' q];exact Nat.le_refl _) fun q=>by rw[Nat.sub_eq_zero_of_le q];exact Nat.min_le_right _ _
 exact Nat.succ_le_succ (Nat.le_trans h2 h)
theorem raw_is {x y:List Nat}{n:Nat}(h:typedOf x n=y):y.take (n / 27%(y.length+1))++[signOf n]++y.drop (n / 27%(y.length+1))=rawOf x n:=by
 subst h
 unfold rawOf
 rw[List.append_assoc]
 rfl
noncomputable def esc1 (c:Nat):Str:=⟨[92,c].toArray⟩
theorem join_esc (l:List Nat):Txt.join (ofString "") (l.map esc1)=⟨((l.map fun c=>[92,c]).flatten).toArray⟩:=by
 rw[show Txt.join (ofString "") (l.map esc1)=Str.join (ofString "") (l.map esc1) from eq_of_beq (join_plain_closes _ _)]
 induction l with
 |nil=>rfl
 |cons c l ih=>
  cases l with
  |nil=>rfl
  |cons d l=>
   show esc1 c++ofString ""++Str.join (ofString "") ((d::l).map esc1)=_
   rw[ih,show ofString ""=(⟨([]:List Nat).toArray⟩:Str) from by rfl,show esc1 c=(⟨[92,c].toArray⟩:Str) from rfl,app2,app2]
   rfl
theorem esc_sum:∀l:List Nat,((l.map esc1).map (·.length)).sum=2*l.length
 | []=>rfl
 |c::l=>by
  rw[List.map_cons,List.map_cons,List.sum_cons,esc_sum l,List.length_cons]
  show 2+_=_
  (walk_at "O")
theorem esc_w {l:List Nat}(h:l.length<=10000):((l.map esc1).map (·.length)).sum+(l.map esc1).length<=1048576:=by
 rw[esc_sum,List.length_map]
 (walk_at "O")
theorem seven (n k:Nat):((n:Int).fdiv 7).fmod 3=(k:Int)↔n / 7%3=k:=by
 have e:((n:Int).fdiv 7).fmod 3=((n / 7%3:Nat):Int):=(congrArg (Int.fmod · 3) (fdiv_nat n 7)).trans (fmod_nat _ 3)
 rw[e]
 (walk_at "O")
theorem spelled_0 {x:List Nat}{n:Nat}(h:n / 7%3=0):spelled x n=34::92::rawOf x n++[34]++[wsS.getD (n / 21%4) 0]:=by
 unfold spelled quoted
 rw[if_pos h]
theorem spelled_1 {x:List Nat}{n:Nat}(h:n / 7%3=1):spelled x n=((rawOf x n).map fun c=>[92,c]).flatten++[wsS.getD (n / 21%4) 0]:=by
 unfold spelled quoted
 rw[if_neg (by(walk_at "O")),if_pos h]
theorem spelled_2 {x:List Nat}{n:Nat}(h:¬ n / 7%3=0)(h':¬ n / 7%3=1):spelled x n=rawOf x n++[wsS.getD (n / 21%4) 0]:=by
 unfold spelled quoted
 rw[if_neg h,if_neg h']
end Uc
end
section
namespace Uc
open PyProof.Rows.LCg
noncomputable def TurnC (h₀:Heap)(L:Addr)(m:Str->Option Value)(s:Shared)(I:Addr)(oI:Obj)(C:Addr)(oC:Obj)(D:Addr)(oD:Obj)(S:List (Addr×Obj)->Prop)(s₂:Shared):Prop:=
 ∃h' tk news',s₂={ s with heap:=h',toks:=tk }/\Fr h₀ L h' m/\News h₀ L h' ((I,oI)::(C,oC)::(D,oD)::news')/\Off3 I C D news'/\S news'
theorem TurnC.mk {h₀:Heap}{L I C D:Addr}{m:Str->Option Value}{s:Shared}{oI oC oD:Obj}{S:List (Addr×Obj)->Prop}{h':Heap}{tk:Nat}{all:List (Addr×Obj)}(news':List (Addr×Obj))
  (F:Fr h₀ L h' m) (N:News h₀ L h' all) (sub:∀p∈(I,oI)::(C,oC)::(D,oD)::news',p∈all) (off:Off3 I C D news') (hS:S news'):TurnC h₀ L m s I oI C oC D oD S { s with heap:=h',toks:=tk }:=
 ⟨h',tk,news',rfl,F,fun p hp=>N p (sub p hp),off,hS⟩
section
variable {prog:Program}{w:World}{A:Around}{E:Value->Shared->Prop}{s:Shared}{h₀:Heap}{L:Addr}{m:Str->Option Value}{env:Env}
noncomputable def TurnsC (prog:Program)(w:World)(A:Around)(h₀:Heap)(L:Addr)(m:Str->Option Value)(env:Env)(elt:Expr)(ifs:List Expr)(x:Str)(scope:Scope)(cl:List (Str×Addr))(n:Nat)(P:Nat->Value->Prop)(S:List (Addr×Obj)->Prop)(R:Nat->List Value->List (Addr×Obj)->Prop)(s:Shared):Prop:=
 ∀i v ys news I oI C oC D m₂ h tk (E':Value->Shared->Prop),i<n->P i v->R i ys news->S news->NsObj oC m₂->m₂ x=some v->Fr h₀ L h m->News h₀ L h ((I,oI)::(C,oC)::(D,lst ys)::news)->Off3 I C D news->((@Ne Nat I C)/\(@Ne Nat I D)/\(@Ne Nat C D))->
  wpAny (model prog w) A (forIn ifs true fun c r=>if r=true then do let ok<-isTrue c (compEnvC scope cl C env) (eval c (compEnvC scope cl C env));pure (ForInStep.yield ok) else pure (ForInStep.yield r)) (fun ok s₃=>
   if ok=true then wpAny (model prog w) A (eval elt (compEnvC scope cl C env)) (fun y s₄=>TurnC h₀ L m { s with heap:=h,toks:=tk } I oI C oC D (lst ys) (fun nw=>S nw/\R (i+1) (ys++[y]) nw) s₄) E' s₃
   else TurnC h₀ L m { s with heap:=h,toks:=tk } I oI C oC D (lst ys) (fun nw=>S nw/\R (i+1) ys nw) s₃) E' { s with heap:=h,toks:=tk }
theorem comp_block {elt iter:Expr}{ifs:List Expr}{x:Str}{px:Pos}{scope:Scope}{cl:List (Str×Addr)}{pos:Pos}{s₂:Shared}{I:Addr}{fp:List Addr}{n:Nat}{P:Nat->Value->Prop}{St:Nat->Heap->Prop}{S:List (Addr×Obj)->Prop}{news:List (Addr×Obj)}
  {R:Nat->List Value->List (Addr×Obj)->Prop} {RR:Value->Addr->Result->Shared->Prop}
  (W:Walks prog w A I fp [I] n P St) (hsz:n<=sizeLine) (hIo:∀i h,St i h->∃o,h.get? I=some o)
  (hSt:∀i h h' o nw,St i h->h.get? I=some o->h'.get? I=some o->(∀b o,h₀.get? b=some o->h'.get? b=some o)->News h₀ L h' nw->S nw->St i h')
  (hcell:∀y∈scope.names,y.2≠.cell) (hkind:scope.kind=.function) (hx:scope.names.lookup x=some .local) (hst:St 0 s₂.heap) (hfp:∀b∈fp,b<s₂.heap.objs.size)
  (F:Fr h₀ L s₂.heap m) (N:News h₀ L s₂.heap news) (hIL:L≠I) (hI₀:h₀.get? I=none) (off:∀p∈news,p.1≠I) (hS:S news) (hR:R 0 [] news)
  (T:TurnsC prog w A h₀ L m env elt ifs x scope cl n P S R s₂)
  (hRR:∀D C h tk m' ys news',Fr h₀ L h m->News h₀ L h ((D,lst ys)::news')->Off1 D news'->h.Ns C m'->h₀.get? C=none->h₀.get? D=none->C≠L->D≠L->C≠D->(∀p∈news',p.1≠C)->R n ys news'->RR (.ref D) C (.ok .next) { s₂ with heap:=h,toks:=tk }):
  wpAny (model prog w) A (newList []) (fun acc s₃=>wpAny (model prog w) A (newFunctionEnv scope env.globals cl [] env.qual none .none (some env)) (fun cenv s₄=>
   codeAny (model prog w) A (.compStart (.ListComp elt [⟨.Name x px,iter,ifs,0⟩] scope pos) 0 (.ref I) acc { cenv with scope:=relabel scope env }) (RR acc cenv.locals) s₄) E s₃) E s₂:=by
 refine wpAny_newObj_type (wpAny_newFunctionEnv hcell (by intro y hy;simp at hy) (fun h₁ hns₁ hsb₁=>?_) hkind)
 dsimp only at hns₁ hsb₁ ⊢
 generalize hH2:s₂.heap.push { cls:=.type "list",dict:=none,data:=.seq ([]:List Value).toArray }=H2 at hns₁ hsb₁ ⊢
 have hC:H2.objs.size=s₂.heap.objs.size+1:=by rw[<-hH2,Heap.size_push]
 have hDC:s₂.heap.objs.size≠H2.objs.size:=by rw[hC];exact Nat.ne_of_lt (Nat.lt_succ_self _)
 have below:∀b,b<s₂.heap.objs.size->b≠H2.objs.size/\b≠s₂.heap.objs.size:=fun b hb=>⟨by rw[hC];exact Nat.ne_of_lt (Nat.lt_succ_of_lt hb),Nat.ne_of_lt hb⟩
 have hDf:s₂.heap.objs.size ∉ fp:=fun hm=>Nat.lt_irrefl _ (hfp _ hm)
 have hCf:H2.objs.size ∉ fp:=fun hm=>by have:=hfp _ hm;rw[hC] at this;exact Nat.lt_irrefl _ (Nat.lt_of_succ_lt this)
 have hIlt:I<s₂.heap.objs.size:=hfp I (W.sub I (List.mem_singleton.mpr rfl))
 have old:∀b o,s₂.heap.get? b=some o->h₁.get? b=some o:=fun b o e=>hsb₁.extBut b o (below b (Heap.lt_size e)).1 (Heap.get?_push_of_some _ (hH2▸Heap.get?_push_of_some _ e))
 have hacc:h₁.get? s₂.heap.objs.size=some (lst []):=hsb₁.extBut _ _ hDC (Heap.get?_push_of_some _ (hH2▸Heap.get?_push_size _ rfl))
 have hst₁:St 0 h₁:=W.frame _ _ _ hst fun b _ o e=>old b o e
 have fresh:∀a,s₂.heap.objs.size<=a->s₂.heap.get? a=none:=fun a ha=>by
  cases e:s₂.heap.get? a with
  |none=>rfl
  |some o'=>exact absurd (Heap.lt_size e) (Nat.not_lt.mpr ha)
 have fresh₀:∀a,s₂.heap.objs.size<=a->h₀.get? a=none:=fun a ha=>by
  cases e:h₀.get? a with
  |none=>rfl
  |some o'=>have:=F.keep a o' e;rw[fresh a ha] at this;cases this
 have hD₀:h₀.get? s₂.heap.objs.size=none:=fresh₀ _ (Nat.le_refl _)
 have hC₀:h₀.get? H2.objs.size=none:=fresh₀ _ (by rw[hC];exact Nat.le_succ _)
 have hLlt:L<s₂.heap.objs.size:=F.ns.lt
 have hDL:s₂.heap.objs.size≠L:=Ne.symm (below L hLlt).2
 have hCL:H2.objs.size≠L:=Ne.symm (below L hLlt).1
 have hCI:I≠H2.objs.size:=(below I hIlt).1
 have hDI:I≠s₂.heap.objs.size:=(below I hIlt).2
 have off₀:Off3 I H2.objs.size s₂.heap.objs.size news:=Off3.of fun p hp=>⟨off p hp,(below _ (Heap.lt_size (N p hp).1)).1,(below _ (Heap.lt_size (N p hp).1)).2⟩
 have loop:∀s₃:Shared,s₃={ s₂ with heap:=h₁,toks:=s₂.toks+([]:List (Str×Value)).length }->
   codeAny (model prog w) A (.compLoop (.ListComp elt [⟨.Name x px,iter,ifs,0⟩] scope pos) 0 (.ref I) (.ref s₂.heap.objs.size) (compEnvC scope cl H2.objs.size env))
    (RR (.ref s₂.heap.objs.size) H2.objs.size) s₃:=by
  rintro s₃ rfl
  refine codeAny_compLoop_tests
   (fun k s'=>∃h' tk i ys m' news',s'={ s₂ with heap:=h',toks:=tk }/\i<=n/\k=n+1-i/\ys.length<=i/\St i h'/\Fr h₀ L h' m/\h'.Ns H2.objs.size m'/\News h₀ L h' ((s₂.heap.objs.size,lst ys)::news')/\
    Off3 I H2.objs.size s₂.heap.objs.size news'/\S news'/\R i ys news') ?_ (n+1)
   (Uc.ei6 h₁ _ 0 ([]) _ news ⟨rfl,Nat.zero_le _,rfl,Nat.le_refl _,hst₁,F.keeps old,hns₁,fun p hp=>?_,off₀,hS,hR⟩)
  ·intro k s' q0;(refine Uc.ex6 q0 fun h' tk i ys m' news'=>Uc.an11 fun e1q hi e2q hyl hst' F' hn' N' off' hS' R'=>?_;clear q0;subst e1q;subst e2q)
   by_cases hlt:i<n
   ·refine W.item i _ _ _ hlt hst' fun v h₂ tk₂ hPv hst₂ hk₂=>?_
    refine wpAny_assign_Name (wpAny_storeName_local (lookup_relabel_local hx) (hn'.at' fun o e=>hk₂ _ o (by simpa using Ne.symm hCI) e) (fun h₃ hn₃ hs₃=>?_) (by simp[compEnvC,relabel,hkind]))
    have hst₃:St (i+1) h₃:=W.frame _ _ _ hst₂ fun b hb o e=>hs₃.extBut b o (fun q=>hCf (by have q':b=H2.objs.size:=q;rw[<-q'];exact hb)) e
    (refine Uc.ex1 (hIo _ _ hst₃) fun oI heI=>?_)
    (refine Uc.ex1 (ns_obj hn₃) fun oC=>Uc.an2 fun heC hoC=>?_)
    have F₃:Fr h₀ L h₃ m:=(fr_but F' hk₂ hIL hI₀).change hs₃ hCL hC₀
    have off3:=off'.mem
    have N₂:News h₀ L h₂ ((s₂.heap.objs.size,lst ys)::news'):=news_but N' hk₂ fun p hp=>by
     rcases List.mem_cons.mp hp with rfl|hp
     ·exact Ne.symm hDI
     ·exact(off3 p hp).1
    have N₃:News h₀ L h₃ ((I,oI)::(H2.objs.size,oC)::(s₂.heap.objs.size,lst ys)::news'):=fun p hp=>by
     rcases List.mem_cons.mp hp with rfl|hp
     ·exact⟨heI,Ne.symm hIL,hI₀⟩
     ·rcases List.mem_cons.mp hp with rfl|hp
      ·exact⟨heC,hCL,hC₀⟩
      ·have z:=N₂ p hp
       refine⟨hs₃.extBut _ _ ?_ z.1,z.2⟩
       rcases List.mem_cons.mp hp with rfl|hp
       ·exact hDC
       ·exact(off3 p hp).2.1
    refine wpAny_mono (T i v ys news' I oI H2.objs.size oC s₂.heap.objs.size _ h₃ _ _ hlt hPv R' hS' hoC (by simp) F₃ N₃ off' ⟨hCI,hDI,Ne.symm hDC⟩) (fun ok s₃ q=>?_) fun _ _ e=>e
    have facts:∀{h₄:Heap} {news₄:List (Addr×Obj)} {S':List (Addr×Obj)->Prop},Fr h₀ L h₄ m->News h₀ L h₄ ((I,oI)::(H2.objs.size,oC)::(s₂.heap.objs.size,lst ys)::news₄)->S news₄->
      News h₀ L h₄ news₄/\St (i+1) h₄/\h₄.get? s₂.heap.objs.size=some (lst ys)/\h₄.get? H2.objs.size=some oC:=fun {h₄ news₄ S'} F₄ N₄ hS₄=>by
     have zI:=(N₄ (I,oI) List.mem_cons_self).1
     have zC:=(N₄ (H2.objs.size,oC) (List.mem_cons_of_mem _ List.mem_cons_self)).1
     have zD:=(N₄ (s₂.heap.objs.size,lst ys) (List.mem_cons_of_mem _ (List.mem_cons_of_mem _ List.mem_cons_self))).1
     have N₄':News h₀ L h₄ news₄:=fun p hp=>N₄ p (List.mem_cons_of_mem _ (List.mem_cons_of_mem _ (List.mem_cons_of_mem _ hp)))
     exact⟨N₄',hSt _ _ _ _ _ hst₃ heI zI F₄.keep N₄' hS₄,zD,zC⟩
    cases ok with
    |false=>
     simp only[Bool.false_eq_true,if_false] at q ⊢
     (refine Uc.ex3 q fun h₄ tk₄ news₄=>Uc.an6 fun e1q F₄ N₄ off₄ hS₄ R₄=>?_;clear q;subst e1q)
     (refine Uc.ah4 (facts (S':=S) F₄ N₄ hS₄) fun N₄' hst₄ zD zC=>?_)
     exact⟨n+1-(i+1),Nat.sub_lt_sub_left (Nat.lt_succ_of_lt hlt) (Nat.lt_succ_self i),Uc.ei6 h₄ tk₄ (i+1) ys _ news₄ ⟨rfl,hlt,rfl,Nat.le_succ_of_le hyl,hst₄,F₄,hoC.ns zC,fun p hp=>N₄ p (List.mem_cons_of_mem _ (List.mem_cons_of_mem _ hp)),off₄,hS₄,R₄⟩⟩
    |true=>
     simp only[if_true] at q ⊢
     refine wpAny_mono q (fun y s₄ q=>?_) fun _ _ e=>e
     (refine Uc.ex3 q fun h₄ tk₄ news₄=>Uc.an6 fun e1q F₄ N₄ off₄ hS₄ R₄=>?_;clear q;subst e1q)
     (refine Uc.ah4 (facts (S':=S) F₄ N₄ hS₄) fun N₄' hst₄ zD zC=>?_)
     refine append_at (hsz:=by show ys.toArray.size<=sizeLine;rw[List.size_toArray];exact Nat.le_trans hyl (Nat.le_trans hi hsz)) zD fun h₅ hs₅ hD₅=>?_
     have off4:=off₄.mem
     refine⟨n+1-(i+1),Nat.sub_lt_sub_left (Nat.lt_succ_of_lt hlt) (Nat.lt_succ_self i),Uc.ei6 h₅ tk₄ (i+1) (ys++[y]) _ news₄ ⟨rfl,hlt,rfl,by rw[List.length_append,List.length_singleton];omega,W.frame _ _ _ hst₄ fun b hb o e=>hs₅.extBut b o (fun q=>hDf (q▸hb)) e,F₄.change hs₅ hDL hD₀,(hoC.ns zC).sameBut hs₅ (Ne.symm hDC),fun p hp=>?_,off₄,hS₄,R₄⟩⟩
     rcases List.mem_cons.mp hp with rfl|hp
     ·exact⟨hD₅.trans (congrArg some (lst_snoc ys y)),hDL,hD₀⟩
     ·exact⟨hs₅.extBut _ _ (off4 p hp).2.2 (N₄' p hp).1,(N₄' p hp).2⟩
   ·obtain rfl:i=n:=Nat.le_antisymm hi (Nat.not_lt.mp hlt)
    refine W.done _ _ _ hst' fun h₂ tk₂ hk₂=>?_
    have off3:=off'.mem
    exact hRR _ _ h₂ tk₂ _ ys news' (fr_but F' hk₂ hIL hI₀) (news_but N' hk₂ fun p hp=>by
     rcases List.mem_cons.mp hp with rfl|hp
     ·exact Ne.symm hDI
     ·exact(off3 p hp).1) off'.one (hn'.at' fun o e=>hk₂ _ o (by simpa using Ne.symm hCI) e) hC₀ hD₀ hCL hDL (Ne.symm hDC) (fun p hp=>(off3 p hp).2.1) R'
  ·rcases List.mem_cons.mp hp with rfl|hp
   ·exact⟨hacc,hDL,hD₀⟩
   ·exact⟨old _ _ (N p hp).1,(N p hp).2⟩
 exact codeAny_compStart_list (loop _ rfl) (W.self 0 _ _ _ hst₁ (loop _ rfl))
noncomputable def CompS (prog:Program)(w:World)(A:Around)(env:Env)(elt:Expr)(ifs:List Expr)(x:Str)(scope:Scope)(cl:List (Str×Addr))(Q:Value->Shared->Prop)(xv:Value)(s₁:Shared):Prop:=
 ∃(h₀:Heap) (L:Addr) (m:Str->Option Value) (y:Str) (t:Tok) (news:List (Addr×Obj)) (R:Nat->List Value->List (Addr×Obj)->Prop),xv=.str y t/\A.handled=none/\Fr h₀ L s₁.heap m/\News h₀ L s₁.heap news/\y.length<=10000/\R 0 [] news/\
  (∀g,TurnsC prog w A h₀ L m env elt ifs x scope cl y.length (SignAt y) (fun _=>True) R { s₁ with heap:=g })/\
  ∀D h tk ys news',R y.length ys news'->Fr h₀ L h m->News h₀ L h ((D,lst ys)::news')->Off1 D news'->Q (.ref D) { s₁ with heap:=h,toks:=tk }
theorem comp_str {elt iter:Expr}{ifs:List Expr}{x:Str}{px:Pos}{scope:Scope}{cl:List (Str×Addr)}{pos:Pos}{Q:Value->Shared->Prop}
  (hclos:closureFor scope env=pure cl) (hcell:∀y∈scope.names,y.2≠.cell) (hkind:scope.kind=.function)
  (hnames:∀y∈scope.names,y.2=.local->scope.names.lookup y.1=some .local) (hx:scope.names.lookup x=some .local)
  (h:wpAny (model prog w) A (eval iter env) (CompS prog w A env elt ifs x scope cl Q) E s)
  (hs:∀x,foldedSetIterable iter env x=pure x):
  wpAny (model prog w) A (eval (.ListComp elt [⟨.Name x px,iter,ifs,0⟩] scope pos) env) Q E s:=by
 rw[eval_ListComp]
 refine wpAny_comprehension_free (use:=none) rfl hs hclos hkind hnames (wpAny_mono h (fun xv s₁ h₁=>?_) fun _ _ e=>e)
 (refine Uc.ex7 h₁ fun h₀ L m y t news R=>Uc.an8 fun e1q hh F N hsz hR T fin=>?_;clear h₁;subst e1q)
 cases ha:y.cps.all (· <128)
 ·refine wpAny_pyIter_wide ha ?_
  refine comp_block (S:=fun _=>True) (Walks.strWide hh s₁.heap.objs.size y t) (Nat.le_trans hsz (by decide)) (fun i h st=>let ⟨o,h1,_⟩:=st;⟨o,h1⟩) (fun i h h' o nw st e1 e2 _ _ _=>by
    obtain⟨o',g1,g2⟩:=st
    rw[e1] at g1;cases g1
    exact⟨o,e2,g2⟩) hcell hkind hx ⟨_,Heap.get?_push_size _ rfl,rfl,rfl⟩ (fun b hb=>by
    rw[List.mem_singleton.mp hb]
    show s₁.heap.objs.size<(s₁.heap.push _).objs.size
    rw[Heap.size_push];exact Nat.lt_succ_self _)
   (F.push _) (fun p hp=>⟨Heap.get?_push_of_some _ (N p hp).1,(N p hp).2⟩) (Nat.ne_of_lt F.ns.lt) (next_is_new F) (fun p hp=>Nat.ne_of_lt (Heap.lt_size (N p hp).1)) trivial hR (T _) ?_
  intro D C h tk m' ys news' F' N' o1 hn hC₀ hD₀ hCL hDL hCD offC r
  refine⟨m',hn,fun h'' hs''=>fin D h'' tk ys news' r (F'.change hs'' hCL hC₀) (fun p hp=>?_) o1⟩
  refine⟨hs''.extBut _ _ ?_ (N' p hp).1,(N' p hp).2⟩
  rcases List.mem_cons.mp hp with rfl|hp
  ·exact Ne.symm hCD
  ·exact offC p hp
 ·refine wpAny_pyIter_ascii ha ?_
  refine comp_block (S:=fun _=>True) (Walks.strAscii hh s₁.heap.objs.size y t) (Nat.le_trans hsz (by decide)) (fun i h st=>let ⟨o,h1,_⟩:=st;⟨o,h1⟩) (fun i h h' o nw st e1 e2 _ _ _=>by
    obtain⟨o',g1,g2⟩:=st
    rw[e1] at g1;cases g1
    exact⟨o,e2,g2⟩) hcell hkind hx ⟨_,Heap.get?_push_size _ rfl,rfl,rfl⟩ (fun b hb=>by
    rw[List.mem_singleton.mp hb]
    show s₁.heap.objs.size<(s₁.heap.push _).objs.size
    rw[Heap.size_push];exact Nat.lt_succ_self _)
   (F.push _) (fun p hp=>⟨Heap.get?_push_of_some _ (N p hp).1,(N p hp).2⟩) (Nat.ne_of_lt F.ns.lt) (next_is_new F) (fun p hp=>Nat.ne_of_lt (Heap.lt_size (N p hp).1)) trivial hR (T _) ?_
  intro D C h tk m' ys news' F' N' o1 hn hC₀ hD₀ hCL hDL hCD offC r
  refine⟨m',hn,fun h'' hs''=>fin D h'' tk ys news' r (F'.change hs'' hCL hC₀) (fun p hp=>?_) o1⟩
  refine⟨hs''.extBut _ _ ?_ (N' p hp).1,(N' p hp).2⟩
  rcases List.mem_cons.mp hp with rfl|hp
  ·exact Ne.symm hCD
  ·exact offC p hp
noncomputable def CompR (prog:Program)(w:World)(A:Around)(env:Env)(elt:Expr)(ifs:List Expr)(x:Str)(scope:Scope)(cl:List (Str×Addr))(Q:Value->Shared->Prop)(xv:Value)(s₁:Shared):Prop:=
 ∃(h₀:Heap) (L:Addr) (m:Str->Option Value) (r:Addr) (b:Int) (t u v:Tok) (n:Nat) (news:List (Addr×Obj)) (R:Nat->List Value->List (Addr×Obj)->Prop),xv=.ref r/\A.handled=none/\Fr h₀ L s₁.heap m/\News h₀ L s₁.heap news/\IsRange s₁.heap r 0 b 1 t u v/\b=(n:Int)/\n<=10000/\R 0 [] news/\
  (∀g,TurnsC prog w A h₀ L m env elt ifs x scope cl n (fun i v=>∃t,v=.int (i:Int) t) (fun _=>True) R { s₁ with heap:=g })/\
  ∀D h tk ys news',R n ys news'->Fr h₀ L h m->News h₀ L h ((D,lst ys)::news')->Off1 D news'->Q (.ref D) { s₁ with heap:=h,toks:=tk }
theorem comp_range {elt iter:Expr}{ifs:List Expr}{x:Str}{px:Pos}{scope:Scope}{cl:List (Str×Addr)}{pos:Pos}{Q:Value->Shared->Prop}
  (hclos:closureFor scope env=pure cl) (hcell:∀y∈scope.names,y.2≠.cell) (hkind:scope.kind=.function)
  (hnames:∀y∈scope.names,y.2=.local->scope.names.lookup y.1=some .local) (hx:scope.names.lookup x=some .local)
  (h:wpAny (model prog w) A (eval iter env) (CompR prog w A env elt ifs x scope cl Q) E s)
  (hs:∀x,foldedSetIterable iter env x=pure x):
  wpAny (model prog w) A (eval (.ListComp elt [⟨.Name x px,iter,ifs,0⟩] scope pos) env) Q E s:=by
 rw[eval_ListComp]
 refine wpAny_comprehension_free (use:=none) rfl hs hclos hkind hnames (wpAny_mono h (fun xv s₁ h₁=>?_) fun _ _ e=>e)
 (refine Uc.ex9 h₁ fun h₀ L m r b t u v n=>Uc.xe2 fun news R=>Uc.an10 fun e1q hh F N hr hb hsz hR T fin=>?_;clear h₁;subst e1q)
 have hsm:Builtin.Range.small 0 b 1=true:=rsmall (by omega) (by omega) (by omega) (by omega) (by omega) (by omega)
 have hn:Builtin.Range.rangeSize 0 b 1=(n:Int):=rsize1 hb
 refine wpAny_pyIter_range hr hsm ?_
 have W:Walks prog w A s₁.heap.objs.size [s₁.heap.objs.size] [s₁.heap.objs.size] n (fun i v=>∃t,v=.int (i:Int) t) (fun i h=>IsRangeIter h s₁.heap.objs.size ((i:Nat):Int) ((n:Int)-(i:Nat)) 1):=by
  have W0:=range_walks (prog:=prog) (w:=w) (A:=A) (I:=s₁.heap.objs.size) hh 0 n
  simpa using W0
 refine comp_block (S:=fun _=>True) W (Nat.le_trans hsz (by decide)) (fun i h st=>⟨_,st⟩) (fun i h h' o nw st e1 e2 _ _ _=>by
   have st':h.get? s₁.heap.objs.size=some _:=st
   rw[e1] at st'
   show h'.get? s₁.heap.objs.size=some _
   rw[e2];exact st') hcell hkind hx (by show IsRangeIter _ _ _ _ _;rw[hn];simpa using Heap.get?_push_size _ rfl) (fun b hb=>by
   rw[List.mem_singleton.mp hb]
   show s₁.heap.objs.size<(s₁.heap.push _).objs.size
   rw[Heap.size_push];exact Nat.lt_succ_self _)
  (F.push _) (fun p hp=>⟨Heap.get?_push_of_some _ (N p hp).1,(N p hp).2⟩) (Nat.ne_of_lt F.ns.lt) (next_is_new F) (fun p hp=>Nat.ne_of_lt (Heap.lt_size (N p hp).1)) trivial hR (T _) ?_
 intro D C h tk m' ys news' F' N' o1 hn hC₀ hD₀ hCL hDL hCD offC r
 refine⟨m',hn,fun h'' hs''=>fin D h'' tk ys news' r (F'.change hs'' hCL hC₀) (fun p hp=>?_) o1⟩
 refine⟨hs''.extBut _ _ ?_ (N' p hp).1,(N' p hp).2⟩
 rcases List.mem_cons.mp hp with rfl|hp
 ·exact Ne.symm hCD
 ·exact offC p hp
noncomputable def CompL (prog:Program)(w:World)(A:Around)(env:Env)(elt:Expr)(ifs:List Expr)(x:Str)(scope:Scope)(cl:List (Str×Addr))(Q:Value->Shared->Prop)(xv:Value)(s₁:Shared):Prop:=
 ∃(h₀:Heap) (L:Addr) (m:Str->Option Value) (ax:Addr) (its:List Value) (k:Nat) (news:List (Addr×Obj)) (R:Nat->List Value->List (Addr×Obj)->Prop),xv=.ref ax/\A.handled=none/\Fr h₀ L s₁.heap m/\News h₀ L s₁.heap news/\(ax,listOf its.toArray k)∈news/\its.length<=10000/\R 0 [] news/\
  (∀g,TurnsC prog w A h₀ L m env elt ifs x scope cl its.length (fun i v=>its[i]? =some v) (fun nw=>(ax,listOf its.toArray k)∈nw) R { s₁ with heap:=g })/\
  ∀D h tk ys news',R its.length ys news'->Fr h₀ L h m->News h₀ L h ((D,lst ys)::news')->Off1 D news'->Q (.ref D) { s₁ with heap:=h,toks:=tk }
theorem comp_list {elt iter:Expr}{ifs:List Expr}{x:Str}{px:Pos}{scope:Scope}{cl:List (Str×Addr)}{pos:Pos}{Q:Value->Shared->Prop}
  (hclos:closureFor scope env=pure cl) (hcell:∀y∈scope.names,y.2≠.cell) (hkind:scope.kind=.function)
  (hnames:∀y∈scope.names,y.2=.local->scope.names.lookup y.1=some .local) (hx:scope.names.lookup x=some .local)
  (h:wpAny (model prog w) A (eval iter env) (CompL prog w A env elt ifs x scope cl Q) E s)
  (hs:∀x,foldedSetIterable iter env x=pure x):
  wpAny (model prog w) A (eval (.ListComp elt [⟨.Name x px,iter,ifs,0⟩] scope pos) env) Q E s:=by
 rw[eval_ListComp]
 refine wpAny_comprehension_free (use:=none) rfl hs hclos hkind hnames (wpAny_mono h (fun xv s₁ h₁=>?_) fun _ _ e=>e)
 (refine Uc.ex8 h₁ fun h₀ L m ax its k news R=>Uc.an9 fun e1q hh F N hm hsz hR T fin=>?_;clear h₁;subst e1q)
 have hl:s₁.heap.IsList ax its.toArray:=⟨_,(N _ hm).1,rfl,k,rfl⟩
 have hlt:ax<s₁.heap.objs.size:=Heap.lt_size (N _ hm).1
 refine wpAny_pyIter_list hl ?_
 have W:Walks prog w A s₁.heap.objs.size [s₁.heap.objs.size,ax] [s₁.heap.objs.size] its.length (fun i v=>its[i]? =some v) (fun i h=>h.IsListIter s₁.heap.objs.size ax i/\h.IsList ax its.toArray):=by
  have:=Walks.list (prog:=prog) (w:=w) (A:=A) hh s₁.heap.objs.size ax (Nat.ne_of_lt hlt) its.toArray
  simpa using this
 refine comp_block (S:=fun nw=>(ax,listOf its.toArray k)∈nw) W (Nat.le_trans hsz (by decide)) (fun i h st=>by obtain⟨o,e,_⟩:=st.1;exact⟨o,e⟩) (fun i h h' o nw st e1 e2 k0 N' S'=>by
   obtain⟨o',g1,g2⟩:=st.1
   rw[e1] at g1;cases g1
   exact⟨⟨o,e2,g2⟩,⟨_,(N' _ S').1,rfl,k,rfl⟩⟩) hcell hkind hx ⟨⟨_,Heap.get?_push_size _ rfl,rfl,rfl⟩,hl.push _⟩ (fun b hb=>by
   show b<(s₁.heap.push _).objs.size
   rw[Heap.size_push]
   rcases List.mem_cons.mp hb with rfl|hb
   ·exact Nat.lt_succ_self _
   ·rw[List.mem_singleton.mp hb];exact Nat.lt_succ_of_lt hlt)
  (F.push _) (fun p hp=>⟨Heap.get?_push_of_some _ (N p hp).1,(N p hp).2⟩) (Nat.ne_of_lt F.ns.lt) (next_is_new F) (fun p hp=>Nat.ne_of_lt (Heap.lt_size (N p hp).1)) hm hR (T _) ?_
 intro D C h tk m' ys news' F' N' o1 hn hC₀ hD₀ hCL hDL hCD offC r
 refine⟨m',hn,fun h'' hs''=>fin D h'' tk ys news' r (F'.change hs'' hCL hC₀) (fun p hp=>?_) o1⟩
 refine⟨hs''.extBut _ _ ?_ (N' p hp).1,(N' p hp).2⟩
 rcases List.mem_cons.mp hp with rfl|hp
 ·exact Ne.symm hCD
 ·exact offC p hp
noncomputable def CompRA (prog:Program)(w:World)(A:Around)(env:Env)(elt:Expr)(ifs:List Expr)(x:Str)(scope:Scope)(cl:List (Str×Addr))(y:Str)(Q:Flow->Shared->Prop)(xv:Value)(s₁:Shared):Prop:=
 ∃(h₀:Heap) (m:Str->Option Value) (r:Addr) (b:Int) (t u v:Tok) (n:Nat) (news:List (Addr×Obj)) (R:Nat->List Value->List (Addr×Obj)->Prop),xv=.ref r/\A.handled=none/\Fr h₀ env.locals s₁.heap m/\News h₀ env.locals s₁.heap news/\IsRange s₁.heap r 0 b 1 t u v/\b=(n:Int)/\n<=10000/\R 0 [] news/\
  (∀g,TurnsC prog w A h₀ env.locals m env elt ifs x scope cl n (fun i v=>∃t,v=.int (i:Int) t) (fun _=>True) R { s₁ with heap:=g })/\
  ∀D h tk ys news',R n ys news'->Fr h₀ env.locals h (fun z=>if z=y then some (.ref D) else m z)->News h₀ env.locals h ((D,lst ys)::news')->Off1 D news'->Q .next { s₁ with heap:=h,toks:=tk }
theorem comp_rangeA {elt iter:Expr}{ifs:List Expr}{x y:Str}{px py:Pos}{scope:Scope}{cl:List (Str×Addr)}{pos spos:Pos}{Q:Flow->Shared->Prop}
  (hsw:swapsWith (.ListComp elt [⟨.Name x px,iter,ifs,0⟩] scope pos) (some (.Name y py)) spos.line env=pure true)
  (hclos:closureFor scope env=pure cl) (hcell:∀y∈scope.names,y.2≠.cell) (hkind:scope.kind=.function)
  (hnames:∀y∈scope.names,y.2=.local->scope.names.lookup y.1=some .local) (hx:scope.names.lookup x=some .local)
  (hy:env.kindOf y=some .local) (hp':(env.scope.kind==.class||(env.scope.kind==.module&&env.locals !=env.globals))=false)
  (h:wpAny (model prog w) A (eval iter env) (CompRA prog w A env elt ifs x scope cl y Q) E s)
  (hs:∀x,foldedSetIterable iter env x=pure x):
  wpAny (model prog w) A (exec (.Assign [.Name y py] (.ListComp elt [⟨.Name x px,iter,ifs,0⟩] scope pos) spos) env) Q E s:=by
 rw[exec_Assign_Name_used _ _ _ _ hsw]
 refine wpAny_bind (wpAny_standAt (wpAny_bind ?_))
 show wpAny _ A (do let _<-comprehension (.ListComp elt [⟨.Name x px,iter,ifs,0⟩] scope pos) scope env _ (newList []) false (eval iter env) (some (assign (.Name y py) env))) _ _ s
 refine wpAny_bind (wpAny_mono (wpAny_comprehension_free (use:=some (assign (.Name y py) env)) (Q:=fun _ s'=>Q .next s') rfl hs hclos hkind hnames
  (wpAny_mono h (fun xv s₁ h₁=>?_) fun _ _ e=>e)) (fun _ s' hq=>wpAny_pure (wpAny_pure hq)) fun _ _ e=>e)
 (refine Uc.ex8 h₁ fun h₀ m r b t u v n=>Uc.xe2 fun news R=>Uc.an10 fun e1q hh F N hr hb hsz hR T fin=>?_;clear h₁;subst e1q)
 have hsm:Builtin.Range.small 0 b 1=true:=rsmall (by omega) (by omega) (by omega) (by omega) (by omega) (by omega)
 have hn:Builtin.Range.rangeSize 0 b 1=(n:Int):=rsize1 hb
 refine wpAny_pyIter_range hr hsm ?_
 have W:Walks prog w A s₁.heap.objs.size [s₁.heap.objs.size] [s₁.heap.objs.size] n (fun i v=>∃t,v=.int (i:Int) t) (fun i h=>IsRangeIter h s₁.heap.objs.size ((i:Nat):Int) ((n:Int)-(i:Nat)) 1):=by
  have W0:=range_walks (prog:=prog) (w:=w) (A:=A) (I:=s₁.heap.objs.size) hh 0 n
  simpa using W0
 refine comp_block (S:=fun _=>True) W (Nat.le_trans hsz (by decide)) (fun i h st=>⟨_,st⟩) (fun i h h' o nw st e1 e2 _ _ _=>by
   have st':h.get? s₁.heap.objs.size=some _:=st
   rw[e1] at st'
   show h'.get? s₁.heap.objs.size=some _
   rw[e2];exact st') hcell hkind hx (by show IsRangeIter _ _ _ _ _;rw[hn];simpa using Heap.get?_push_size _ rfl) (fun b hb=>by
   rw[List.mem_singleton.mp hb]
   show s₁.heap.objs.size<(s₁.heap.push _).objs.size
   rw[Heap.size_push];exact Nat.lt_succ_self _)
  (F.push _) (fun p hp=>⟨Heap.get?_push_of_some _ (N p hp).1,(N p hp).2⟩) (Nat.ne_of_lt F.ns.lt) (next_is_new F) (fun p hp=>Nat.ne_of_lt (Heap.lt_size (N p hp).1)) trivial hR (T _) ?_
 intro D C h tk m' ys news' F' N' o1 hn hC₀ hD₀ hCL hDL hCD offC r
 show wpAny _ A (assign (.Name y py) env (.ref D)) _ _ _
 refine wpAny_assign_Name (wpAny_storeName_local hy F'.ns (fun h₂ hn₂ hs₂=>?_) hp')
 have hL₀:h₀.get? env.locals=none:=Heap.get?_none_of_le F'.above
 have F₂:Fr h₀ env.locals h₂ (fun z=>if z=y then some (.ref D) else m z):=⟨hn₂,fun b o e=>hs₂.extBut b o (fun q=>by rw[q,hL₀] at e;cases e) (F'.keep b o e),F'.above⟩
 refine⟨m',hn.sameBut hs₂ hCL,fun h'' hs''=>fin D h'' _ ys news' r (F₂.change hs'' hCL hC₀) (fun p hp=>?_) o1⟩
 have z:h₂.get? p.1=some p.2:=hs₂.extBut _ _ (N' p hp).2.1 (N' p hp).1
 refine⟨hs''.extBut _ _ ?_ z,(N' p hp).2⟩
 rcases List.mem_cons.mp hp with rfl|hp
 ·exact Ne.symm hCD
 ·exact offC p hp
end
end Uc
end
section
namespace Uc
noncomputable def okV (h:Int):Value->Bool
 | .int k _=>h==k&&decide (0<=k)&&decide (k<1000000)
 |_=>false
noncomputable def okE (e:Int×Value):Bool:=okV e.1 e.2
theorem hash_small {k:Int}(h:0<=k)(h':k<1000000):hashInt k=k:=by
 have e:rawHash k=k:=by
  unfold rawHash
  have e1:k.natAbs%(2^61-1)=k.natAbs:=Nat.mod_eq_of_lt (by omega)
  have e2:((k.natAbs:Int)%((2^61-1:Nat):Int))=k:=by
   rw[<-Int.natCast_emod,e1]
   omega
  have e3:¬ k<0:=by omega
  have e4:(k== -1)=false:=by simp;omega
  simp only[e3,if_false,e2,e4,Bool.false_eq_true]
 unfold hashInt
 rw[e,if_neg (by simp;omega)]
theorem okV_i {h k:Int}{t:Tok}(q:okV h (.int k t)=true):h=hashInt k/\h=k:=by
 replace q:(h==k&&decide (0<=k)&&decide (k<1000000))=true:=q
 simp only[Bool.and_eq_true,beq_iff_eq,decide_eq_true_eq] at q
 exact⟨by rw[hash_small q.1.2 q.2];exact q.1.1,q.1.1⟩
noncomputable def b1E (P:Params):List (Int×Value):=match (o71 P).data with
 | .set es _ _=>es.toList
 |_=>[]
theorem b1_ok (P:Params):(b1E P).all okE=true:=by kernel_rfl
noncomputable def b1K:List Int:=[65024,65025,65026,65027,65028,65029,6150,65030,65031,65032,65033,6155,6156,6157,8203,8204,8205,65034,65035,65036,65037,65038,65039,173,847,8288,65279]
noncomputable def isB1 (c:Int):Bool:=b1K.any (· ==c)
theorem b1_is (P:Params)(prog:Program)(w:World):(o71 P).SetObjOf (intKind prog w) isB1 27:=by
 refine⟨⟨rfl,rfl,rfl⟩,(b1E P).toArray,_,_,rfl,?_,?_,rfl,rfl⟩
 ·intro e he
  have he:e∈b1E P:=by simpa using he
  obtain⟨hv,v⟩:=e
  have this:okV hv v=true:=List.all_eq_true.mp (b1_ok P) _ he
  cases v with
  |int k t=>exact⟨⟨k,isInt_self k t,(okV_i this).1⟩,rfl⟩
  |_=>cases this
 ·intro k
  show isB1 k=true↔∃e∈(b1E P).toArray.toList,Value.isInt k e.2=true
  have:isB1 k=(b1E P).any (fun e=>Value.isInt k e.2):=rfl
  rw[this,List.any_eq_true]
noncomputable def strV:Value->Option Str
 | .str v _=>some v
 |_=>none
noncomputable def okD (e:DictEntry):Bool:=okV e.hash e.key&&(strV e.val).isSome
noncomputable def keyD (e:DictEntry):Int:=e.hash
noncomputable def valD (e:DictEntry):Str:=(strV e.val).getD Str.empty
theorem okD_i {e:DictEntry}(h:okD e=true):∃t v u,e=⟨e.hash,.int e.hash t,.str v u⟩/\e.hash=hashInt e.hash:=by
 obtain⟨hs,key,val⟩:=e
 obtain⟨ha,hb⟩:=Bool.and_eq_true_iff.mp h
 cases key with
 |int k t=>cases val with
  |str v u=>
   replace ha:=okV_i ha
   obtain rfl:hs=k:=ha.2
   exact⟨t,v,u,rfl,ha.1⟩
  |_=>cases hb
 |_=>cases ha
noncomputable def incr:List Int->Bool
 |a::b::r=>decide (a<b)&&incr (b::r)
 |_=>true
theorem incr_i {a b:Int}{l:List Int}(h:incr (a::b::l)=true):a<b/\incr (b::l)=true:=⟨of_decide_eq_true (Bool.and_eq_true_iff.mp h).1,(Bool.and_eq_true_iff.mp h).2⟩
theorem incr_lt:∀{l:List Int} {a:Int},incr (a::l)=true->∀b∈l,a<b
 | [],_,_,b,h=>absurd h (List.not_mem_nil)
 |c::l,a,h,b,hb=>by
  replace h:=incr_i h
  rcases List.mem_cons.mp hb with rfl|hb
  ·exact h.1
  ·exact Int.lt_trans h.1 (incr_lt h.2 b hb)
theorem incr_nodup:∀{l:List Int},incr l=true->l.Nodup
 | [],_=>.nil
 | [a],_=>by simp
 |a::b::l,h=>by
  have hl:=incr_lt h
  replace h:=incr_i h
  exact List.nodup_cons.mpr ⟨fun hm=>absurd (hl a hm) (Int.lt_irrefl _),incr_nodup h.2⟩
noncomputable def b3E:List DictEntry:=tabFrom 0 tabKeys tabVals
noncomputable def b3L:List (Int×Str):=b3E.map fun e=>(keyD e,valD e)
theorem b3_ok:b3E.all okD=true:=by kernel_rfl
theorem b3_incr:incr (b3E.map keyD)=true:=by kernel_rfl
noncomputable def b3? (c:Int):Option Str:=b3L.lookup c
theorem pairs_of {prog:Program}{w:World}:∀(l:List DictEntry),l.all okD=true->Pairs (intKind prog w) l (l.map fun e=>(keyD e,e.val))/\PyProof.V.FlatPairs PyData.int (l.map fun e=>(keyD e,e.val)) ((l.map fun e=>(keyD e,valD e)).map fun p=>(PyData.int p.1,PyData.str p.2))
 | [],_=>⟨.nil,.nil⟩
 |e::l,h=>by
  rw[List.all_cons,Bool.and_eq_true] at h
  obtain⟨h1,h2⟩:=h
  obtain⟨p,q⟩:=pairs_of l h2
  obtain⟨t,v,u,e1,_⟩:=okD_i h1
  rw[e1]
  exact⟨.cons (isInt_self _ t) rfl p,.cons (.str v u) q⟩
theorem keys_of {prog:Program}{w:World}(l:List DictEntry)(h:l.all okD=true):PySem.KeysOf (intKind prog w) l.toArray:=by
 intro e he
 have he:e∈l:=by simpa using he
 obtain⟨t,v,u,e1,e2⟩:=okD_i (List.all_eq_true.mp h e he)
 rw[e1]
 exact⟨e.hash,isInt_self _ t,e2⟩
theorem b3_tab {prog:Program}{w:World}{h:Heap}{P:Params}(ho:h.get? 82=some (o82 P)):IntTab prog w h 82 (b3L.map fun p=>(PyData.int p.1,PyData.str p.2)):=by
 refine TabAt.ofObj (by decide) ho (kvs:=b3E.map fun e=>(keyD e,e.val)) ⟨b3E.toArray,_,⟨rfl,rfl,rfl⟩,rfl,keys_of _ b3_ok,?_,?_⟩ (pairs_of (prog:=prog) (w:=w) _ b3_ok).2
 ·exact(pairs_of b3E b3_ok).1
 ·have:=incr_nodup b3_incr
  rw[List.map_map]
  exact this
theorem lookup_ints (c:Int):∀l:List (Int×Str),PySem.Spec.lookup (.int c) (l.map fun p=>(PyData.int p.1,PyData.str p.2))=(l.lookup c).map PyData.str
 | []=>rfl
 |(k,v)::l=>by
  rw[List.map_cons,PySem.Spec.lookup,lookup_ints c l,List.lookup_cons]
  have:PySem.Spec.same (.int k) (.int c)=(k==c):=rfl
  rw[this]
  by_cases e:k=c
  ·subst e;simp
  ·rw[if_neg (by simpa using e)]
   have:(c==k)=false:=by simpa using fun h=>e h.symm
   rw[this]
theorem K_b1 (P:Params):(K P).lookup 71=some (o71 P):=by kernel_rfl
theorem K_b3 (P:Params):(K P).lookup 82=some (o82 P):=by kernel_rfl
theorem flat_str {v:Value}{x:Str}(h:PyProof.V.Flat v (.str x)):∃t,v=.str x t:=by
 have:=h default
 cases this
 exact⟨_,rfl⟩
theorem flat_none {v:Value}(h:PyProof.V.Flat v .none):v=.none:=by
 have:=h default
 cases this
 rfl
noncomputable def mapB3 (c:Nat):Str:=match b3? c with
 |some v=>v
 |none=>Txt.lower ⟨#[c]⟩
section
variable (w:World)(p:Program)(loose:List Str)(mean:ExcName->Option Value)(mg mb:Str->Option Value)
theorem in_b1 (news:List (Addr×Obj))(c:Nat)(tc:Tok)(hc:c<1114112):
  Con w p loose mean mg mb 81 4 12 [.str ⟨#[c]⟩ tc] news (fun _=>True) (fun v n=>n=news/\v=.bool (isB1 c)):=by
 dsimp only[Con,Pm]
 k_fill
 (set_option tactic.hygienic true in intros)
 rename_i hret
 refine wpAny_call ?_
 k_dflt cell_enter
 (refine Uc.letAE ?_;intro AA EE)
 walk_at "X"
 rename (K w.params).In _=>hX
 rename Fr _ _ _ _=>hF
 refine in_argsetI hF (b1_is w.params _ _) (hX _ _ (K_b1 _)) (by decide) ?_
 walk_at "X"
 exact hret _ _ _ _ ⟨rfl,rfl⟩ ‹_› ‹_›
theorem map_b3 (news:List (Addr×Obj))(c:Nat)(tc:Tok)(hc:c<1114112):
  Con w p loose mean mg mb 127 4 12 [.str ⟨#[c]⟩ tc] news (fun _=>True) (fun v n=>n=news/\∃t,v=.str (mapB3 c) t):=by
 dsimp only[Con,Pm]
 k_fill
 (set_option tactic.hygienic true in intros)
 rename_i hret
 refine wpAny_call ?_
 k_dflt cell_enter
 (refine Uc.letAE ?_;intro AA EE)
 walk_at "X"
 rename (K w.params).In _=>hX
 rename Fr _ _ _ _=>hF
 have l1:Str.length ⟨#[c]⟩=1:=rfl
 refine getMethod_intTab_get ((b3_tab (hX _ _ (K_b3 _))).keep hF.keep) ?_
 walk_at "X"
 refine call_get1_intTab ((b3_tab (hX _ _ (K_b3 _))).keep hF.keep) fun v hv=>?_
 have hv:PyProof.V.Flat v ((PySem.Spec.lookup (.int (c:Int)) (b3L.map fun p=>(PyData.int p.1,PyData.str p.2))).getD .none):=hv
 rw[lookup_ints] at hv
 cases hb:b3? c with
 |some x=>
  have hb':b3L.lookup (c:Int)=some x:=hb
  rw[hb'] at hv
  obtain⟨t,rfl⟩:∃t,v=.str x t:=flat_str hv
  walk_at "X"
  exact hret _ _ _ _ ⟨rfl,_,by rw[mapB3,hb]⟩ ‹_› ‹_›
 |none=>
  have hb':b3L.lookup (c:Int)=none:=hb
  rw[hb'] at hv
  obtain rfl:v=.none:=flat_none hv
  repeat' (first|(walk_at "P")|(walk_at "V";first|((with_reducible show wpAny _ _ (call (Value.builtin "str.lower") _) _ _ _);refine SCL.lower (by omega) ?_;intro hLow)|(walk_at "T")))
  exact hret _ _ _ _ ⟨rfl,_,by rw[mapB3,hb]⟩ ‹_› ‹_›
end
end Uc
end
section
namespace Uc
open PyProof.Rows.LCg
noncomputable def keptL (l:List Nat):List Str:=(l.filter fun(c:Nat)=> !isB1 (c:Int)).map fun(c:Nat)=>if c<128 then chr1 c else mapB3 c
theorem keptL_snoc (l:List Nat)(c:Nat):keptL (l++[c])=if isB1 (c:Int) then keptL l else keptL l++[if c<128 then chr1 c else mapB3 c]:=by
 unfold keptL
 rw[List.filter_append]
 cases h:isB1 (c:Int)<;>simp[h]
theorem kept_w {x:List Nat}(hx:x.length<=100)(hb:∀c∈x,c<1114112/\(mapB3 c).length<=100):((keptL x).map (·.length)).sum+(keptL x).length<=1048576:=by
 have h1:∀l:List Nat,(∀c∈l,(mapB3 c).length<=100)->((keptL l).map (·.length)).sum<=100*l.length/\(keptL l).length<=l.length:=fun l=>by
  induction l with
  |nil=>intro _;exact⟨Nat.le_refl _,Nat.le_refl _⟩
  |cons c l ih=>
   intro h
   obtain⟨a,b⟩:=ih fun c hc=>h c (.tail _ hc)
   have hc:=h c (.head _)
   unfold keptL at a b ⊢
   rw[List.filter_cons]
   split
   ·simp only[List.map_cons,List.sum_cons,List.length_cons]
    have:(if c<128 then chr1 c else mapB3 c).length<=100:=by
     split
     ·exact Nat.le_trans (Nat.le_refl 1) (by decide)
     ·exact hc
    (walk_at "O")
   ·simp only[List.length_cons]
    (walk_at "O")
 obtain⟨a,b⟩:=h1 x fun c hc=>(hb c hc).2
 (walk_at "O")
section
variable (w:World)(p:Program)(loose:List Str)(mean:ExcName->Option Value)(mg mb:Str->Option Value)
theorem kept_c (news:List (Addr×Obj))(x:List Nat)(tx:Tok)(hx:x.length<=100)(hb:∀c∈x,c<1114112/\(mapB3 c).length<=100):
  Con w p loose mean mg mb 224 16 60 [.str ⟨x.toArray⟩ tx] news (fun _=>True) (fun v n'=>n'=news/\∃t,v=.str (Txt.join (ofString "") (keptL x)) t):=by
 dsimp only[Con,Pm]
 k_fill
 (set_option tactic.hygienic true in intros)
 rename_i hret
 refine wpAny_call ?_
 k_dflt cell_enter
 (refine Uc.letAE ?_;intro AA EE)
 repeat' (first|(walk_at "P")|(walk_at "V";first|((with_reducible show wpAny _ _ (callWith _ (Value.builtin _) _ _ _) _ _ _);dsimp only;first|((with_reducible show wpAny _ _ (callWith _ (Value.builtin "list.append") _ _ _) _ _ _);refine callWith_method1 ?_)|((with_reducible show wpAny _ _ (callWith _ (Value.builtin "str.join") _ _ _) _ _ _);refine callWith_method1 ?_))|((with_reducible show wpAny _ _ (eval (Expr.ListComp _ _ _ _) _) _ _ _);(k_dflt (refine Uc.comp_str (by rfl) (by decide) (by rfl) (by decide) (by rfl) ?_ (by intro _;rfl))))|(walk_at "T")))
 rename Fr _ _ _ _=>F7
 rename News _ _ _ _=>N7
 have hy7:(⟨x.toArray⟩:Str).length=x.length:=by show x.toArray.size=_;simp
 refine Uc.ei7 _ _ _ (⟨x.toArray⟩) _ news (fun i ys nw=>nw=news/\StrsAre ys (keptL (x.take i))) ⟨rfl,rfl,F7,N7,by rw[hy7];(walk_at "O"),⟨rfl,by rw[List.take_zero];exact .nil⟩,?T,?fin⟩
 case T=>
  intro g i v ys nw I oI C oC D m₂ h tk E' hi w7q w8q _ hoC hm2 F N off w9q;(refine Uc.ex2 w7q fun c t=>Uc.an2 fun hc e1q=>?_;clear w7q;subst e1q);(refine Uc.ah2 w8q fun e1q hR=>?_;clear w8q;subst e1q);(refine Uc.ah3 w9q fun d1 d2 d3=>?_;clear w9q)
  have hcl:x[i]? =some c:=by simpa using hc
  obtain⟨hc1,hc2⟩:=hb c (List.mem_of_getElem? hcl)
  have hk:keptL (x.take (i+1))=if isB1 (c:Int) then keptL (x.take i) else keptL (x.take i)++[if c<128 then chr1 c else mapB3 c]:=by
   rw[List.take_add_one,hcl]
   exact keptL_snoc _ _
  refine wpAny_tests_one ?_
  walk_at "X"
  (refine in_b1 w p loose mean mg mb _ c t hc1 _ _ _ _ _ _ _ _ _ _ _ _ _ _ _ _ _ ‹_› ‹_› ‹_› ‹_› ‹_› (by first|assumption|rfl) ?pre (by walk_at "r") (by walk_at "u") ?_);(case pre=>first|exact trivial|assumption)
  first|refine kE0nv ?_|refine kE0vn ?_
  intro h' tk' F N
  cases hB:isB1 (c:Int) with
  |true=>
   rw[hB,if_pos rfl] at hk
   walk_at "X"
   (try simp only[Bool.not_true,Bool.false_eq_true,if_false])
   exact TurnC.mk nw ‹_› ‹_› (fun _ h=>h) off ⟨trivial,rfl,by rw[hk];exact hR⟩
  |false=>
   rw[hB,if_neg (by decide)] at hk
   walk_at "X"
   ·rename (_<(128:Int))=>hlt
    have h128:c<128:=by
     have e:(chr1 c).cps.getD 0 0=c:=rfl
     have hlt':((c:Nat):Int)<128:=hlt
     (walk_at "O")
    rw[if_pos h128] at hk
    exact TurnC.mk nw ‹_› ‹_› (fun _ h=>h) off ⟨trivial,rfl,by rw[hk];exact StrsAre.append' hR (.cons _ _ .nil)⟩
   ·rename (¬ _<(128:Int))=>hlt
    have h128:¬ c<128:=by
     have hlt':¬ ((c:Nat):Int)<128:=hlt
     (walk_at "O")
    rw[if_neg h128] at hk
    (refine map_b3 w p loose mean mg mb _ c t hc1 _ _ _ _ _ _ _ _ _ _ _ _ _ _ _ _ _ ‹_› ‹_› ‹_› ‹_› ‹_› (by first|assumption|rfl) ?pre (by walk_at "r") (by walk_at "u") ?_);(case pre=>first|exact trivial|assumption)
    refine kEn1v ?_
    intro t' h' tk' F N
    walk_at "X"
    exact TurnC.mk nw ‹_› ‹_› (fun _ h=>h) off ⟨trivial,rfl,by rw[hk];exact StrsAre.append' hR (.cons _ _ .nil)⟩
 case fin=>
  rintro D h tk ys nw ⟨rfl,hR⟩ F N o1
  rw[hy7,List.take_of_length_le (Nat.le_refl _)] at hR
  walk_at "X"
  refine join_listW (ys:=keptL x) (News.isList N (.head _)) hR (Nat.zero_le _) (kept_w hx hb) ?_
  intro t' k'
  walk_at "X"
  exact hret _ _ _ _ ⟨rfl,_,rfl⟩ ‹_› (News.sub ‹_› (by walk_at "I"))
end
end Uc
end
section
namespace Uc
section
variable (w:World)(p:Program)(loose:List Str)(mean:ExcName->Option Value)(mg mb:Str->Option Value)
theorem ws_make (news:List (Addr×Obj))(x:Str)(tx:Tok)(hx:x.length<=1000):
  Con w p loose mean mg mb 189 8 30 [.str x tx] news (fun _=>True) (fun v n=>∃a d P T vs tn tt tb k0 k1 k2 k3 k4,n=(a,instObj 189 d)::(d,dictOf [{ hash:=PyData.keyHash w.params (ofString "raw"),key:=Value.str (ofString "raw") k0,val:=.str x tx },{ hash:=PyData.keyHash w.params (ofString "n"),key:=Value.str (ofString "n") k1,val:=.int ((wsOf x).n:Int) tn },{ hash:=PyData.keyHash w.params (ofString "nt"),key:=Value.str (ofString "nt") k2,val:=.int ((wsOf x).nt:Int) tt },{ hash:=PyData.keyHash w.params (ofString "norm"),key:=Value.str (ofString "norm") k3,val:=.ref P },{ hash:=PyData.keyHash w.params (ofString "is_simple"),key:=Value.str (ofString "is_simple") k4,val:=.bool (decide (((wsOf x).cs.length:Int)<=1)) }] 5)::(P,{ cls:=Value.type "tuple",data:=Data.seq #[Value.ref T,Value.int ((wsOf x).b:Int) tb] })::(T,{ cls:=Value.type "tuple",data:=Data.seq vs.toArray })::news/\v=.ref a/\IntsAre vs (wsOf x).cs):=by
 dsimp only[Con,Pm]
 k_fill
 (set_option tactic.hygienic true in intros)
 rename_i hret
 k_dflt (refine' call_cls ?k1 ?k2 ?k3 ?k4 ?k5 ?k6 ?_;(case k1=>k_asm);(case k2=>k_asm);(case k3=>k_asm);(case k4=>k_is);(case k5=>k_is);(case k6=>k_is);k_whole)
 intro x' d' h' F' N' l1 l2
 (try k_lt l1);(try k_lt2 l2);(try k_sweep)
 k_dflt cell_enter
 (refine Uc.letAE ?_;intro AA EE)
 repeat' (first|(walk_at "P")|(walk_at "V";(fail_if_success (with_reducible show wpAny _ _ (execs (PySem.Stmt.For _ _ _ _ ⟨67,_,_,_⟩::_) _) _ _ _));walk_at "T"))
 rename News _ _ _ (_::_::_::_::news)=>N1
 rename (_<_/\_<_/\_<_/\AllLt _ news)=>hAl
 obtain⟨R₀,hR₀,N2,hAl⟩:=News.cutLt N1 hAl
 rename Fr _ _ _ _=>F2
 walk_at "H"
 refine execs_join F2 (σ:=(Addr×List Int×List Value×Nat×WS)×Tok×Tok×Tok) (fun c=>(c.1.1,W.listOf c.1.2.2.1.toArray c.1.2.2.2.1)::R₀)
   (fun c=>[(ofString "count",.ref c.1.1),(ofString "b",.int (c.1.2.2.2.2.b:Int) c.2.1),(ofString "n",.int (c.1.2.2.2.2.n:Int) c.2.2.1),(ofString "nt",.int (c.1.2.2.2.2.nt:Int) c.2.2.2),(ofString "self",.ref x')])
   (fun c=>wsOf x=c.1.2.2.2.2/\c.1.2.1=c.1.2.2.2.2.cs/\IntsAre c.1.2.2.1 c.1.2.1/\c.1.2.1.length=c.1.2.2.1.length/\(∀p∈R₀,p.1≠c.1.1)/\c.1.2.1.length<=1000) ?j1 ?j2
 case j1=>
  clear N2
  walk_at "X"
  rename News _ _ _ (_::_::_::_::news)=>N1
  have N2:=N1
  rw[<-hR₀] at N2
  refine iter_str (σ:=(Addr×List Int×List Value×Nat×WS)×Tok×Tok×Tok×Tok×Tok) (fun c=>(c.1.1,W.listOf c.1.2.2.1.toArray c.1.2.2.2.1)::R₀)
   (fun c=>[(ofString "count",.ref c.1.1),(ofString "b",.int (c.1.2.2.2.2.b:Int) c.2.1),(ofString "n",.int (c.1.2.2.2.2.n:Int) c.2.2.1),(ofString "nt",.int (c.1.2.2.2.2.nt:Int) c.2.2.2.1),
    (ofString "S",.str (ofString " ") c.2.2.2.2.1),(ofString "T",.str (ofString "\t") c.2.2.2.2.2),(ofString "self",.ref x')])
   (fun i c=>wsOf x=wsGo (x.cps.toList.drop i) c.1.2.2.2.2/\c.1.2.1=c.1.2.2.2.2.cs/\IntsAre c.1.2.2.1 c.1.2.1/\c.1.2.1.length=c.1.2.2.1.length/\(∀p∈R₀,p.1≠c.1.1)/\c.1.2.2.2.2.b<=i/\c.1.2.2.2.2.n<=i/\c.1.2.2.2.2.nt<=i/\c.1.2.1.length<=i)
   ((_,[],[],0,⟨[],0,0,0⟩),_,_,_,_,_) rfl ‹_› N2 ⟨rfl,rfl,rfl,rfl,rfl,rfl,rfl,trivial⟩ ?hp ?turn ?done
  case hp=>exact⟨rfl,rfl,.nil,rfl,hAl,Nat.le_refl _,Nat.le_refl _,Nat.le_refl _,Nat.le_refl _⟩
  case turn=>
   intro i k t
   refine fpLLoooooRoooooR fun lc cs vs cnt st t1 t2 t3 t4 t5=>?_
   intro u h tk I o hk hR1z hne hit F N
   have hR:=hR1z.1
   have hcs:=hR1z.2.1
   have hI:=hR1z.2.2.1
   have hlen:=hR1z.2.2.2.1
   have hne0:=hR1z.2.2.2.2.1
   have hb:=hR1z.2.2.2.2.2.1
   have hn:=hR1z.2.2.2.2.2.2.1
   have hnt:=hR1z.2.2.2.2.2.2.2.1
   have hcl:=hR1z.2.2.2.2.2.2.2.2
   clear hR1z
   k_sweep
   dsimp only at hR hcs hI hlen hne0 hb hn hnt hcl hne F N ⊢
   have hi:i<x.length:=(Array.getElem?_eq_some_iff.mp hk).1
   rw[drop_some hk] at hR
   walk_at "H"
   refine J.start (gl_ok ‹_› ‹_›) F N rfl rfl ?_
   clear F N
   intro C
   ((repeat(refine Uc.J.nil ?_));(first|(refine' Uc.J.ite ?ht ?jp ?_ ?_;(case ht=>walk_at "h");(case jp=>exact rfl))|(refine' Uc.J.ite_c ?ht ?jp ?jc ?_ ?_;(case ht=>walk_at "h");(case jp=>exact rfl);(case jc=>first|omega|skip))))
   ·intro hc
    replace hc:=beq_iff_eq.mpr hc
    rw[sp_is,chr_eq,beq_iff_eq] at hc
    subst hc
    ((repeat(refine Uc.J.nil ?_));(first|(refine' Uc.J.asg ?ht ?jp ?jx ?js ?_;(case ht=>walk_at "h");(case jp=>exact rfl);(case jx=>exact rfl);(case js=>exact rfl))|(refine' Uc.J.asg_c ?ht ?jp ?jx ?js ?jc ?_;(case ht=>walk_at "h");(case jp=>exact rfl);(case jx=>exact rfl);(case js=>exact rfl);(case jc=>first|omega|skip))));intro t6
    ((repeat(refine Uc.J.nil ?_));(first|(refine' Uc.J.asg ?ht ?jp ?jx ?js ?_;(case ht=>walk_at "h");(case jp=>exact rfl);(case jx=>exact rfl);(case js=>exact rfl))|(refine' Uc.J.asg_c ?ht ?jp ?jx ?js ?jc ?_;(case ht=>walk_at "h");(case jp=>exact rfl);(case jx=>exact rfl);(case js=>exact rfl);(case jc=>first|omega|skip))));intro t7
    (repeat(refine Uc.J.nil ?_))
    refine J.done ?_
    intro h' tk' F' N'
    dsimp only[C,Cx.sg] at F' N' ⊢
    walk_at "H";exact Turn.next ((lc,cs,vs,cnt,⟨st.cs,st.b+1,st.n+1,st.nt⟩),t7,t6,_,_,_) F' N' (by intro _ h;exact h) (by first|(intro p hp;left;rcases List.mem_cons.mp hp with rfl|hp<;>first|exact List.mem_map.mpr ⟨_,.head _,rfl⟩|exact List.mem_map.mpr ⟨_,.tail _ hp,rfl⟩)|(intro p hp;left;simp only[List.mem_cons,List.map_cons] at hp ⊢;rcases hp with rfl|hp<;>first|exact .inl rfl|exact .inr (List.mem_map_of_mem hp))) ⟨rfl,rfl,rfl,rfl,rfl,rfl,rfl,trivial⟩ ⟨by rw[hR,wsGo_cons,if_pos rfl],hcs,hI,hlen,hne0,Nat.succ_le_succ hb,Nat.succ_le_succ hn,Nat.le_succ_of_le hnt,Nat.le_succ_of_le hcl⟩
   ·intro hc
    replace hc:¬ k=32:=fun e=>hc (by subst e;rfl)
    ((repeat(refine Uc.J.nil ?_));(first|(refine' Uc.J.ite ?ht ?jp ?_ ?_;(case ht=>walk_at "h");(case jp=>exact rfl))|(refine' Uc.J.ite_c ?ht ?jp ?jc ?_ ?_;(case ht=>walk_at "h");(case jp=>exact rfl);(case jc=>first|omega|skip))))
    ·intro hd
     replace hd:=beq_iff_eq.mpr hd
     rw[tab_is,chr_eq,beq_iff_eq] at hd
     subst hd
     ((repeat(refine Uc.J.nil ?_));(first|(refine' Uc.J.asg ?ht ?jp ?jx ?js ?_;(case ht=>walk_at "h");(case jp=>exact rfl);(case jx=>exact rfl);(case js=>exact rfl))|(refine' Uc.J.asg_c ?ht ?jp ?jx ?js ?jc ?_;(case ht=>walk_at "h");(case jp=>exact rfl);(case jx=>exact rfl);(case js=>exact rfl);(case jc=>first|omega|skip))));intro t6
     ((repeat(refine Uc.J.nil ?_));(first|(refine' Uc.J.asg ?ht ?jp ?jx ?js ?_;(case ht=>walk_at "h");(case jp=>exact rfl);(case jx=>exact rfl);(case js=>exact rfl))|(refine' Uc.J.asg_c ?ht ?jp ?jx ?js ?jc ?_;(case ht=>walk_at "h");(case jp=>exact rfl);(case jx=>exact rfl);(case js=>exact rfl);(case jc=>first|omega|skip))));intro t7
     obtain⟨G,hGd⟩:∃G,G=cs++List.replicate (st.b+1-cs.length) (0:Int):=⟨_,rfl⟩
     have hGl:st.b<G.length/\G.length<=i+1:=by
      subst hGd
      simp only[List.length_append,List.length_replicate]
      (walk_at "O")
     refine J.stepJ (σ:=Addr×List Value×Nat) (fun c=>(c.1,W.listOf c.2.1.toArray c.2.2)::(R₀++[(I,o)]))
      (fun c=>[(ofString "count",.ref c.1),(ofString "b",.int (st.b:Int) t1),(ofString "n",.int ((st.n+1:Nat):Int) t6),(ofString "nt",.int ((st.nt+1:Nat):Int) t7),
       (ofString "S",.str (ofString " ") t4),(ofString "T",.str (ofString "\t") t5),(ofString "self",.ref x')])
      (fun c=>IntsAre c.2.1 G/\(∀p∈R₀++[(I,o)],p.1≠c.1)) ?g1 ?g2
     case g1=>
      intro h tk F N
      dsimp only[C,Cx.sg] at F N ⊢
      walk_at "X"
      ·rename IntsAre _ (cs++_)=>hG
       rename (_<_/\_<_/\AllLt _ ((_,W.listOf vs.toArray cnt)::_))=>hL
       rw[List.flatten_replicate_singleton,show((st.b:Int)-(cs.length:Int)+1).toNat=st.b+1-cs.length by(walk_at "O"), <-hGd] at hG
       exact⟨(_,_,_),_,_,_,rfl,‹_›,News.sub ‹_› (by intro p hp;rcases List.mem_cons.mp hp with rfl|hp<;>first|exact .head _|exact .tail _ (.tail _ (.tail _ (.tail _ hp)))),⟨rfl,rfl,rfl,rfl,rfl,rfl,rfl,trivial⟩,hG,fun p hp=>Nat.ne_of_lt (allLt_all hL.2.2 p (.tail _ hp))⟩
      ·rw[show st.b+1-cs.length=0 by(walk_at "O"),List.replicate_zero,List.append_nil] at hGd
       subst hGd
       exact⟨(lc,vs,cnt),_,_,_,rfl,‹_›,News.sub ‹_› (by walk_at "I"),⟨rfl,rfl,rfl,rfl,rfl,rfl,rfl,trivial⟩,hI,fun p hp=>(List.mem_append.mp hp).elim (hne0 p) fun hp=>by rw[List.mem_singleton.mp hp];exact(hne _ (.head _)).symm⟩
     case g2=>
      refine fpLoooR fun lc' vs' cnt'=>?_
      intro u hR2z
      have hG:=hR2z.1
      have hne1:=hR2z.2
      clear hR2z
      dsimp only at hG hne1 ⊢
      have hvl:=intsAre_len hG
      refine' J.tab (TbOk.addI tb0 (x:=ofString "count") (.loc ?hm rfl rfl) (.inl ⟨_,.head _⟩) hG) fun ht=>?_
      case hm=>exact rfl
      refine' J.seti ht ?he rfl ?hi ⟨by rw[hvl];exact hGl.1,by omega⟩ hne1 ?hs fun t8=>?_
      case he=>(first|(refine' Uc.Rs.holds_ok ?jp ?_;(case jp=>exact rfl))|(refine' Uc.Rs.holds_c ?jp ?jc ?_;(case jp=>exact rfl);(case jc=>first|omega|skip)));exact rfl
      case hi=>(first|(refine' Uc.Rs.holds_ok ?jp ?_;(case jp=>exact rfl))|(refine' Uc.Rs.holds_c ?jp ?jc ?_;(case jp=>exact rfl);(case jc=>first|omega|skip)));exact rfl
      case hs=>exact rfl
      ((repeat(refine Uc.J.nil ?_));(first|(refine' Uc.J.asg ?ht ?jp ?jx ?js ?_;(case ht=>walk_at "h");(case jp=>exact rfl);(case jx=>exact rfl);(case js=>exact rfl))|(refine' Uc.J.asg_c ?ht ?jp ?jx ?js ?jc ?_;(case ht=>walk_at "h");(case jp=>exact rfl);(case jx=>exact rfl);(case js=>exact rfl);(case jc=>first|omega|skip))));intro t9
      (repeat(refine Uc.J.nil ?_))
      refine J.done ?_
      intro h' tk' F' N'
      dsimp only[C,Cx.sg] at F' N' ⊢
      walk_at "H";exact Turn.next ((lc',bump cs st.b,_,_,⟨bump cs st.b,0,st.n+1,st.nt+1⟩),t9,t6,t7,_,_) F' N' (by intro _ h;exact h) (by intro p hp;rcases List.mem_cons.mp hp with rfl|hp<;>first|exact .inr rfl|exact .inl (.tail _ (List.mem_map_of_mem hp)))
       ⟨rfl,rfl,rfl,rfl,rfl,rfl,rfl,trivial⟩ ⟨by rw[hR,wsGo_cons,if_neg (by decide),if_pos rfl, <-hcs],rfl,by subst hGd;exact intsAre_set _ _ hG st.b,by subst hGd;simp only[bump,List.length_set];exact hvl.symm,fun p hp=>hne1 p (List.mem_append.mpr (.inl hp)),Nat.zero_le _,Nat.succ_le_succ hn,Nat.succ_le_succ hnt,by subst hGd;simp only[bump,List.length_set];exact hGl.2⟩
    ·intro hd
     replace hd:¬ k=9:=fun e=>hd (by subst e;rfl)
     refine J.brk ?_
     intro h tk F N
     dsimp only[C,Cx.sg] at F N ⊢
     walk_at "H"
     refine Turn.brk ?_
     walk_at "H"
     walk_at "H";exact GotF.mk ((lc,cs,vs,cnt,st),_,_,_) F N (fun p hp=>List.mem_append_left _ hp) ⟨rfl,rfl,rfl,rfl,rfl,trivial⟩ ⟨by rw[hR,wsGo_cons,if_neg hc,if_neg hd],hcs,hI,hlen,hne0,Nat.le_trans hcl (Nat.le_of_lt (Nat.lt_of_lt_of_le hi hx))⟩
  case done=>
   refine fpLLoooooRoooooR fun lc cs vs cnt st t1 t2 t3 t4 t5=>?_
   intro u h tk hR3z F N
   have hR:=hR3z.1
   have hcs:=hR3z.2.1
   have hI:=hR3z.2.2.1
   have hlen:=hR3z.2.2.2.1
   have hne0:=hR3z.2.2.2.2.1
   have hb:=hR3z.2.2.2.2.2.1
   have hn:=hR3z.2.2.2.2.2.2.1
   have hnt:=hR3z.2.2.2.2.2.2.2.1
   have hcl:=hR3z.2.2.2.2.2.2.2.2
   clear hR3z
   k_sweep
   dsimp only at hR hcs hI hlen hne0 hb hn hnt hcl F N ⊢
   have hx':x.cps.size=x.length:=rfl
   rw[List.drop_of_length_le (by simp)] at hR
   walk_at "H";exact GotF.mk ((lc,cs,vs,cnt,st),_,_,_) F N (fun _ h=>h) ⟨rfl,rfl,rfl,rfl,rfl,trivial⟩ ⟨hR,hcs,hI,hlen,hne0,by dsimp only;(walk_at "O")⟩
 refine fpLLoooooRoooR fun lc cs vs cnt st t1 t2 t3=>?_
 intro u h tk hR4z F N
 have hR:=hR4z.1
 have hcs:=hR4z.2.1
 have hI:=hR4z.2.2.1
 have hlen:=hR4z.2.2.2.1
 have hne0:=hR4z.2.2.2.2.1
 have hcl:=hR4z.2.2.2.2.2
 clear hR4z
 k_sweep
 dsimp only at hR hcs hI hlen hne0 hcl F N ⊢
 subst hR₀
 simp only[List.forall_mem_cons] at hne0
 obtain⟨q1,q2,q3,q4⟩:=hne0
 have q1:=neN q1
 have q2:=neN q2
 have q3:=neN q3
 walk_at "X"
 rename News _ _ _ (_::_::(lc,_)::_)=>N8
 have q5:=neN (News.ne N8 (.tail _ (.head _)) (.tail _ (.tail _ (.tail _ (.tail _ (.tail _ (.head _)))))) (fun e=>by injection e with e;exact absurd e (by decide)))
 have q6:=neN (News.ne N8 (.tail _ (.head _)) (.tail _ (.tail _ (.tail _ (.tail _ (.head _))))) (fun e=>by injection e))
 walk_at "X"
 subst hcs hR
 rename News _ _ _ (_::_::_::_::_::_::news)=>kN
 exact hret _ _ _ _ (Uc.ei13 _ _ _ _ _ _ _ _ _ _ _ _ _ ⟨rfl,rfl,hI⟩) ‹_› (News.sub kN fun p hp=>by
  rcases List.mem_cons.mp hp with rfl|hp
  ·exact .tail _ (.tail _ (.tail _ (.tail _ (.head _))))
  rcases List.mem_cons.mp hp with rfl|hp
  ·exact .tail _ (.tail _ (.tail _ (.tail _ (.tail _ (.head _)))))
  rcases List.mem_cons.mp hp with rfl|hp
  ·exact .head _
  rcases List.mem_cons.mp hp with rfl|hp
  ·exact .tail _ (.head _)
  exact .tail _ (.tail _ (.tail _ (.tail _ (.tail _ (.tail _ hp))))))
end
end Uc
end
section
namespace Uc
theorem inner_cons (c x:Nat)(xs:List Nat)(r:Int)(rs:List Int)(d res mn:Int):inner c (x::xs) (r::rs) d res mn=(min (min res r+2) (d+cst c x)::(inner c xs rs r (min (min res r+2) (d+cst c x)) (if min (min res r+2) (d+cst c x)<mn then min (min res r+2) (d+cst c x) else mn)).1,(inner c xs rs r (min (min res r+2) (d+cst c x)) (if min (min res r+2) (d+cst c x)<mn then min (min res r+2) (d+cst c x) else mn)).2):=rfl
theorem inner_turn {c:Nat}{U:List Nat}{row:List Int}{j:Nat}{d res mn ρ:Int}{X:List Int×Int×Int}(hj:j<U.length)(hjr:j<row.length)(hρ:ρ=min (min res (row.getD j 0)+2) (d+cst c (U.getD j 0)))
  (hJ:X=(row.take j++(inner c (U.drop j) (row.drop j) d res mn).1,(inner c (U.drop j) (row.drop j) d res mn).2)):
  X=((row.set j ρ).take (j+1)++(inner c (U.drop (j+1)) ((row.set j ρ).drop (j+1)) (row.getD j 0) ρ (if ρ<mn then ρ else mn)).1,(inner c (U.drop (j+1)) ((row.set j ρ).drop (j+1)) (row.getD j 0) ρ (if ρ<mn then ρ else mn)).2):=by
 have hU':U.drop j=U.getD j 0::U.drop (j+1):=drop_getD hj
 have hR':row.drop j=row.getD j 0::row.drop (j+1):=(List.drop_eq_getElem_cons hjr).trans (by rw[List.getD_eq_getElem?_getD,List.getElem?_eq_getElem hjr];rfl)
 rw[hU',hR',inner_cons, <-hρ] at hJ
 rw[hJ,List.drop_set_of_lt (Nat.lt_succ_self j),List.take_succ,List.take_set_of_le (Nat.le_refl j),List.getElem?_set_self hjr,Option.toList_some,List.append_assoc,List.singleton_append]
theorem outer_turn {U cs:List Nat}{mx x d res mn:Int}{c i:Nat}{row row':List Int}(hJ:inner c U row ((i:Int)*2) ((i:Int)*2) BIG=(row'++(inner c [] [] d res mn).1,(inner c [] [] d res mn).2)):
  outer U mx (c::cs) i row x=if mx<mn then mx+1 else outer U mx cs (i+1) row' res:=by
 have e:inner c U row ((i:Int)*2) ((i:Int)*2) BIG=(row',res,mn):=hJ.trans (show(row'++[],res,mn)=_ by rw[List.append_nil])
 show(if mx<(inner c U row ((i:Int)*2) ((i:Int)*2) BIG).2.2 then mx+1 else outer U mx cs (i+1) (inner c U row ((i:Int)*2) ((i:Int)*2) BIG).1 (inner c U row ((i:Int)*2) ((i:Int)*2) BIG).2.1)=_
 rw[e]
section
variable (w:World)(p:Program)(loose:List Str)(mean:ExcName->Option Value)(mg mb:Str->Option Value)
theorem int_is {x y:Int}{t:Tok}(h:x=y):Value.int x t=Value.int y t:=by rw[h]
theorem sub_cost (news:List (Addr×Obj))(a b:Str)(ta tb:Tok)(ha:a.length<=5000)(hb:b.length<=5000):
  Con w p loose mean mg mb 200 4 12 [.str a ta,.str b tb] news (fun _=>True) (fun v n=>n=news/\∃t,v=.int (subCost a b) t):=by
 dsimp only[Con,Pm]
 k_fill
 (set_option tactic.hygienic true in intros)
 rename_i hret
 refine wpAny_call ?_
 k_dflt cell_enter
 (refine Uc.letAE ?_;intro AA EE)
 repeat' (first|(walk_at "P")|(walk_at "V";first|((with_reducible show wpAny _ _ (call (Value.builtin "str.lower") _) _ _ _);refine SCL.lower (by omega) ?_;intro hLow)|(walk_at "T")))
 ·rename (_==_)=true=>h1
  exact hret _ _ _ _ ⟨rfl,_,int_is (by rw[beq_iff_eq] at h1;rw[subCost,if_pos h1])⟩ ‹_› ‹_›
 ·rename (a==b)=false=>h1
  rename (_==_)=true=>h2
  exact hret _ _ _ _ ⟨rfl,_,int_is (by rw[beq_eq_false_iff_ne] at h1;rw[beq_iff_eq] at h2;rw[subCost,if_neg h1,if_pos h2])⟩ ‹_› ‹_›
 ·rename (a==b)=false=>h1
  rename (Txt.lower _==_)=false=>h2
  exact hret _ _ _ _ ⟨rfl,_,int_is (by rw[beq_eq_false_iff_ne] at h1 h2;rw[subCost,if_neg h1,if_neg h2])⟩ ‹_› ‹_›
noncomputable def subR2 (a b:Str):List PV->Rs
 | []=>.cond (a.length<=5000/\b.length<=5000) (.int (subCost a b))
 |_::_=>.bad
noncomputable def subR1 (a:Str):List PV->Rs
 | .str b::r=>subR2 a b r
 |_=>.bad
noncomputable def subR:List PV->Rs
 | .str a::r=>subR1 a r
 |_=>.bad
theorem sub_fn {C:Cx}{pre:Heap->Prop}{d u:Nat}(ok:CxOk C p loose mean mg mb pre d u)(hx:C.env.kindOf (ofString "_substitution_cost")=some .globalImplicit)(hw:C.w=w)(hd:4<=d)(hu:12<=u):FnOk C (ofString "_substitution_cost") subR:=by
 refine FnOk.con ok rfl keep_sub hx rfl ?_
 subst hw
 intro m nw ps vs Q hv hr
 cases hv with
 |nil=>exact hr.elim
 |@cons p1 v1 ps1 vs1 h1 r1=>
  cases r1 with
  |nil=>cases p1<;>exact hr.elim
  |@cons p2 v2 ps2 vs2 h2 r2=>
   obtain⟨u1,rfl⟩:=h1
   obtain⟨u2,rfl⟩:=h2
   cases p1<;>try exact hr.elim
   cases p2<;>try exact hr.elim
   cases r2 with
   |cons _ _=>exact hr.elim
   |nil=>exact ok.call (sub_cost C.w p loose mean mg mb nw _ _ _ _ hr.1.1 hr.1.2) (fun v nw' ⟨e1,t,e2⟩=>by subst e1 e2;exact hr.2 t) (fun _ _=>trivial) hd hu
theorem wt_side {la lb s1 s2 k:Nat}{x:Int}(ha:la<=1000)(hb:lb<=1000)(e1:s1=la-k)(e2:s2=lb-k)(hx:0<s1->0<s2->(-(la:Int)<=x/\x<la)/\(-(lb:Int)<=x/\x<lb)):
  (la<=16777216/\s1<=16777216)/\(0<s1->(lb<=16777216/\s2<=16777216)/\(0<s2->(la<=16777216/\ -(la:Int)<=x/\x<la)/\lb<=16777216/\ -(lb:Int)<=x/\x<lb)):=by
 have a1:la<=16777216:=Nat.le_trans ha (by decide)
 have b1:lb<=16777216:=Nat.le_trans hb (by decide)
 have a2:s1<=16777216:=by rw[e1];exact Nat.le_trans (Nat.sub_le _ _) a1
 have b2:s2<=16777216:=by rw[e2];exact Nat.le_trans (Nat.sub_le _ _) b1
 exact⟨⟨a1,a2⟩,fun h1=>⟨⟨b1,b2⟩,fun h2=>⟨⟨a1,(hx h1 h2).1⟩,b1,(hx h1 h2).2⟩⟩⟩
theorem wt_pre {la lb k:Nat}(h1:0<la-k)(h2:0<lb-k):(-(la:Int)<=(k:Int)/\(k:Int)<la)/\(-(lb:Int)<=(k:Int)/\(k:Int)<lb):=by omega
theorem wt_post {la lb k:Nat}(h1:0<la-k)(h2:0<lb-k):(-(la:Int)<= -(k:Int)-1/\ -(k:Int)-1<la)/\(-(lb:Int)<= -(k:Int)-1/\ -(k:Int)-1<lb):=by omega
set_option tactic.hygienic true in
theorem lev (news:List (Addr×Obj))(a b:Str)(ta tb tm:Tok)(mx:Int)(ha:a.length<=1000)(hb:b.length<=1000)(h1: -1000<=mx)(h2:mx<=100000):
  Con w p loose mean mg mb 207 8 30 [.str a ta,.str b tb,.int mx tm] news (fun _=>True) (fun v n=>n=news/\∃t,v=.int (levS a b mx) t):=by
 dsimp only[Con,Pm]
 k_fill
 (set_option tactic.hygienic true in intros)
 rename_i hret
 refine wpAny_call ?_
 k_dflt cell_enter
 rename Fr _ _ _ _=>F0
 rename News _ _ _ _=>N0
 refine Uc.J.start (gl_ok ‹_› ‹_›) F0 N0 rfl rfl ?_
 clear F0 N0
 rename_i qk ek
 intro C
 obtain⟨z,hz⟩:∃z,z=levS a b mx:=⟨_,rfl⟩
 have ret:∀{m:Str->Option Value} {v:Value} {h:Heap} {tk:Nat} {nw:Led},(∃t,v=.int z t)->Fr C.h₀ C.L h m->News C.h₀ C.L h nw->(∀p∈news,p∈nw)->C.Q (.ret v) (C.sg h tk):=by
  intro m v h tk nw hv F N hs
  dsimp only[C,qk] at F N ⊢
  exact leaveK_ F N fun kF kN=>hret _ _ _ _ ⟨rfl,hz▸hv⟩ kF (News.sub kN hs)
 have okC:CxOk C p loose mean mg mb (fun _=>True) 4 12:=⟨rfl,by assumption,by assumption,_,_,_,_,_,_,rfl,rfl,by assumption,trivial,by ktr_room,by ktr_units⟩
 have hF:=sub_fn w p loose mean mg mb okC rfl rfl (by decide) (by decide)
 ((repeat(refine Uc.J.nil ?_));(first|(refine' Uc.J.ite ?ht ?jp ?_ ?_;(case ht=>walk_at "h");(case jp=>exact rfl))|(refine' Uc.J.ite_c ?ht ?jp ?jc ?_ ?_;(case ht=>walk_at "h");(case jp=>exact rfl);(case jc=>first|omega|skip))))<;>intro hab
 ·((repeat(refine Uc.J.nil ?_));(first|(refine' Uc.J.ret ?ht ?jp ?_;(case ht=>walk_at "h");(case jp=>exact rfl))|(refine' Uc.J.ret_c ?ht ?jp ?jc ?_;(case ht=>walk_at "h");(case jp=>exact rfl);(case jc=>first|omega|skip))));intro t h tk F N
  exact ret ⟨_,int_is (by rw[hz];subst hab;simp[levS,levL])⟩ F N fun _ h=>h
 have hE:PassesOwn (model C.prog C.w) C.A C.env C.E:=PassesOwn.leaving
 have hab':a.cps.toList≠b.cps.toList:=fun e=>hab (by cases a;cases b;simp only[PySem.Str.mk.injEq];exact Array.toList_inj.mp e)
 refine J.gen [(ofString "a",.str a ta),(ofString "b",.str b tb),(ofString "max_cost",.int mx tm)] ⟨rfl,rfl,rfl,trivial⟩ fun u=>?_
 ((repeat(refine Uc.J.nil ?_));(first|(refine' Uc.J.asg ?ht ?jp ?jx ?js ?_;(case ht=>walk_at "h");(case jp=>exact rfl);(case jx=>exact rfl);(case js=>exact rfl))|(refine' Uc.J.asg_c ?ht ?jp ?jx ?js ?jc ?_;(case ht=>walk_at "h");(case jp=>exact rfl);(case jx=>exact rfl);(case js=>exact rfl);(case jc=>first|omega|skip))));intro t
 refine J.while (σ:=Nat×Tok) (fun _=>news) (fun c=>[(ofString "pre",.int c.1 c.2),(ofString "a",.str a ta),(ofString "b",.str b tb),(ofString "max_cost",.int mx tm)])
   (fun c=>c.1<=a.length/\c.1<=b.length/\sPre (a.cps.toList.drop c.1) (b.cps.toList.drop c.1)=sPre a.cps.toList b.cps.toList) (fun c=>a.length-c.1) (0,t) (fun _=>{ gl:=C.gl }) (fun _ _ _=>tb0) hE ⟨rfl,rfl,rfl,rfl,trivial⟩ ⟨Nat.zero_le _,Nat.zero_le _,rfl⟩ ?_ fun _ h=>h
 refine fpLooR fun k t=>?_
 intro u hP
 dsimp -zeta only at hP ⊢
 have sa:=slF_len a k
 have sb:=slF_len b k
 refine' Uc.Bs.holds_c ?jp (wt_side ha hb sa sb fun h1 h2=>wt_pre (sa▸h1) (sb▸h2)) ⟨fun hp=>?_,fun hp=>?_⟩
 case jp=>exact rfl
 ·intro C0
  ((repeat(refine Uc.J.nil ?_));(first|(refine' Uc.J.aug ?ht ?jp ?jx ?_;(case ht=>walk_at "h");(case jp=>exact rfl);(case jx=>exact rfl);skip)|(refine' Uc.J.aug_c ?ht ?jp ?jx ?jc ?_;(case ht=>walk_at "h");(case jp=>exact rfl);(case jx=>exact rfl);(case jc=>first|omega|skip))))
  intro t'
  have ka:k<a.length:=by omega
  have kb:k<b.length:=by omega
  have he:=hp.2.2
  rw[item_nat a k ka,item_nat b k kb,sgl_eq] at he
  exact J.turn (k+1,t') ⟨rfl,rfl,rfl,rfl,trivial⟩ ⟨ka,kb,(sPre_step ka kb he).trans hP.2.2⟩ (Nat.sub_succ_lt_self _ _ ka) fun _ h=>h
 have hZ:sPre a.cps.toList b.cps.toList=(a.cps.toList.drop k,b.cps.toList.drop k):=by
  refine hP.2.2.symm.trans (sPre_stop ?_)
  by_cases ka:k<a.length
  ·by_cases kb:k<b.length
   ·refine .inr (.inr fun e=>hp ⟨by omega,by omega,?_⟩)
    rw[item_nat a k ka,item_nat b k kb,sgl_eq]
    exact e
   ·exact .inr (.inl (Nat.le_of_not_lt kb))
  ·exact .inl (Nat.le_of_not_lt ka)
 clear hp hP sa sb
 ((repeat(refine Uc.J.nil ?_));(first|(refine' Uc.J.asg ?ht ?jp ?jx ?js ?_;(case ht=>walk_at "h");(case jp=>exact rfl);(case jx=>exact rfl);(case js=>exact rfl))|(refine' Uc.J.asg_c ?ht ?jp ?jx ?js ?jc ?_;(case ht=>walk_at "h");(case jp=>exact rfl);(case jx=>exact rfl);(case js=>exact rfl);(case jc=>first|omega|skip))));intro t1
 ((repeat(refine Uc.J.nil ?_));(first|(refine' Uc.J.asg ?ht ?jp ?jx ?js ?_;(case ht=>walk_at "h");(case jp=>exact rfl);(case jx=>exact rfl);(case js=>exact rfl))|(refine' Uc.J.asg_c ?ht ?jp ?jx ?js ?jc ?_;(case ht=>walk_at "h");(case jp=>exact rfl);(case jx=>exact rfl);(case js=>exact rfl);(case jc=>first|omega|skip))));intro t2
 ((repeat(refine Uc.J.nil ?_));(first|(refine' Uc.J.asg ?ht ?jp ?jx ?js ?_;(case ht=>walk_at "h");(case jp=>exact rfl);(case jx=>exact rfl);(case js=>exact rfl))|(refine' Uc.J.asg_c ?ht ?jp ?jx ?js ?jc ?_;(case ht=>walk_at "h");(case jp=>exact rfl);(case jx=>exact rfl);(case js=>exact rfl);(case jc=>first|omega|skip))));intro t3
 dsimp only[PV.den]
 rw[slF a k,slF b k]
 have lA:(a.cps.toList.drop k).length<=1000:=by rw[List.length_drop];exact Nat.le_trans (Nat.sub_le _ _) ha
 have lB:(b.cps.toList.drop k).length<=1000:=by rw[List.length_drop];exact Nat.le_trans (Nat.sub_le _ _) hb
 have hL:levS a b mx=lev2 (sPre (a.cps.toList.drop k).reverse (b.cps.toList.drop k).reverse).1.reverse (sPre (a.cps.toList.drop k).reverse (b.cps.toList.drop k).reverse).2.reverse mx:=by
  unfold levS levL
  rw[if_neg hab',hZ]
 rw[hL] at hz
 clear hL hZ hab' hab ha hb
 obtain⟨A,hA⟩:∃A,A=a.cps.toList.drop k:=⟨_,rfl⟩
 obtain⟨B,hB⟩:∃B,B=b.cps.toList.drop k:=⟨_,rfl⟩
 rw[<-hA] at hz lA ⊢
 rw[<-hB] at hz lB ⊢
 clear hA hB
 have eA:=str_len A
 have eB:=str_len B
 refine J.while (σ:=Nat×Tok) (fun _=>news) (fun c=>[(ofString "post",.int (-(c.1:Int)) c.2),(ofString "a",.str ⟨A.toArray⟩ t1),(ofString "b",.str ⟨B.toArray⟩ t2),(ofString "max_cost",.int mx tm)])
   (fun c=>c.1<=A.length/\c.1<=B.length/\sPre (A.reverse.drop c.1) (B.reverse.drop c.1)=sPre A.reverse B.reverse) (fun c=>A.length-c.1) (0,t3) (fun _=>{ gl:=C.gl }) (fun _ _ _=>tb0) hE ⟨rfl,rfl,rfl,rfl,trivial⟩ ⟨Nat.zero_le _,Nat.zero_le _,rfl⟩ ?_ fun _ h=>h
 refine fpLooR fun q t=>?_
 intro u hP
 dsimp -zeta only at hP ⊢
 have qA:q<=Str.length ⟨A.toArray⟩:=by rw[eA];exact hP.1
 have qB:q<=Str.length ⟨B.toArray⟩:=by rw[eB];exact hP.2.1
 have sa:=slQ_len ⟨A.toArray⟩ q qA
 have sb:=slQ_len ⟨B.toArray⟩ q qB
 refine' Uc.Bs.holds_c ?jp (wt_side (eA▸lA) (eB▸lB) sa sb fun h1 h2=>wt_post (sa▸h1) (sb▸h2)) ⟨fun hp=>?_,fun hp=>?_⟩
 case jp=>exact rfl
 ·intro C0
  ((repeat(refine Uc.J.nil ?_));(first|(refine' Uc.J.aug ?ht ?jp ?jx ?_;(case ht=>walk_at "h");(case jp=>exact rfl);(case jx=>exact rfl);skip)|(refine' Uc.J.aug_c ?ht ?jp ?jx ?jc ?_;(case ht=>walk_at "h");(case jp=>exact rfl);(case jx=>exact rfl);(case jc=>first|omega|skip))))
  intro t'
  have ka:q<A.length:=by omega
  have kb:q<B.length:=by omega
  have he:=hp.2.2
  rw[item_rev _ q (by rw[eA];exact ka),item_rev _ q (by rw[eB];exact kb),sgl_eq] at he
  exact J.turn (q+1,t') ⟨congrArg some (int_is (show -(q:Int)-1= -((q+1:Nat):Int) by omega)),rfl,rfl,rfl,trivial⟩
   ⟨ka,kb,(sPre_step (by rw[List.length_reverse];exact ka) (by rw[List.length_reverse];exact kb) he).trans hP.2.2⟩ (Nat.sub_succ_lt_self _ _ ka) fun _ h=>h
 have hZ:sPre A.reverse B.reverse=(A.reverse.drop q,B.reverse.drop q):=by
  refine hP.2.2.symm.trans (sPre_stop ?_)
  by_cases ka:q<A.length
  ·by_cases kb:q<B.length
   ·refine .inr (.inr fun e=>hp ⟨by omega,by omega,?_⟩)
    rw[item_rev _ q (by rw[eA];exact ka),item_rev _ q (by rw[eB];exact kb),sgl_eq]
    exact e
   ·exact .inr (.inl (by rw[List.length_reverse];exact Nat.le_of_not_lt kb))
  ·exact .inl (by rw[List.length_reverse];exact Nat.le_of_not_lt ka)
 rw[hZ] at hz
 dsimp only at hz
 rw[List.drop_reverse,List.drop_reverse,List.reverse_reverse,List.reverse_reverse] at hz
 clear hp hP hZ
 ((repeat(refine Uc.J.nil ?_));(first|(refine' Uc.J.asg ?ht ?jp ?jx ?js ?_;(case ht=>walk_at "h");(case jp=>exact rfl);(case jx=>exact rfl);(case js=>exact rfl))|(refine' Uc.J.asg_c ?ht ?jp ?jx ?js ?jc ?_;(case ht=>walk_at "h");(case jp=>exact rfl);(case jx=>exact rfl);(case js=>exact rfl);(case jc=>first|omega|skip))));intro t4
 ((repeat(refine Uc.J.nil ?_));(first|(refine' Uc.J.asg ?ht ?jp ?jx ?js ?_;(case ht=>walk_at "h");(case jp=>exact rfl);(case jx=>exact rfl);(case js=>exact rfl))|(refine' Uc.J.asg_c ?ht ?jp ?jx ?js ?jc ?_;(case ht=>walk_at "h");(case jp=>exact rfl);(case jx=>exact rfl);(case js=>exact rfl);(case jc=>first|omega|skip))));intro t5
 dsimp only[PV.den]
 rw[slQ _ q qA,slQ _ q qB,eA,eB]
 clear sa sb qA qB eA eB
 have lX:(A.take (A.length-q)).length<=1000:=by rw[List.length_take];exact Nat.le_trans (Nat.min_le_right _ _) lA
 have lY:(B.take (B.length-q)).length<=1000:=by rw[List.length_take];exact Nat.le_trans (Nat.min_le_right _ _) lB
 dsimp only
 obtain⟨X,hX⟩:∃X,X=A.take (A.length-q):=⟨_,rfl⟩
 obtain⟨Y,hY⟩:∃Y,Y=B.take (B.length-q):=⟨_,rfl⟩
 rw[<-hX] at hz lX ⊢
 rw[<-hY] at hz lY ⊢
 clear hX hY lA lB
 refine J.gen [(ofString "a",.str ⟨X.toArray⟩ t4),(ofString "b",.str ⟨Y.toArray⟩ t5),(ofString "max_cost",.int mx tm)] ⟨rfl,rfl,rfl,trivial⟩ fun u=>?_
 have eX:=str_len X
 have eY:=str_len Y
 ((repeat(refine Uc.J.nil ?_));(first|(refine' Uc.J.ite ?ht ?jp ?_ ?_;(case ht=>walk_at "h");(case jp=>exact rfl))|(refine' Uc.J.ite_c ?ht ?jp ?jc ?_ ?_;(case ht=>walk_at "h");(case jp=>exact rfl);(case jc=>first|omega|skip))))<;>intro h0
 ·((repeat(refine Uc.J.nil ?_));(first|(refine' Uc.J.ret ?ht ?jp ?_;(case ht=>walk_at "h");(case jp=>exact rfl))|(refine' Uc.J.ret_c ?ht ?jp ?jc ?_;(case ht=>walk_at "h");(case jp=>exact rfl);(case jc=>first|omega|skip))))
  intro t h tk F N
  refine ret ⟨_,int_is ?_⟩ F N fun _ h=>h
  rw[hz,lev2,if_pos (by omega),eX,eY]
 have z0:¬ (X.length=0∨Y.length=0):=by omega
 clear h0
 ((repeat(refine Uc.J.nil ?_));(first|(refine' Uc.J.ite ?ht ?jp ?_ ?_;(case ht=>walk_at "h");(case jp=>exact rfl))|(refine' Uc.J.ite_c ?ht ?jp ?jc ?_ ?_;(case ht=>walk_at "h");(case jp=>exact rfl);(case jc=>first|omega|skip))))<;>intro h40
 ·((repeat(refine Uc.J.nil ?_));(first|(refine' Uc.J.ret ?ht ?jp ?_;(case ht=>walk_at "h");(case jp=>exact rfl))|(refine' Uc.J.ret_c ?ht ?jp ?jc ?_;(case ht=>walk_at "h");(case jp=>exact rfl);(case jc=>first|omega|skip))))
  intro t h tk F N
  refine ret ⟨_,int_is ?_⟩ F N fun _ h=>h
  rw[hz,lev2,if_neg z0,if_pos (by omega)]
 have z40:¬ (40<X.length∨40<Y.length):=by omega
 clear h40
 have fin:∀(U V:List Nat) (t1 t2 t3:Tok) (u:Str->Option Value),lev2 X Y mx=lev3 U V mx->1<=U.length->U.length<=V.length->V.length<=40->
  J C (fm u [(ofString "a",.str ⟨U.toArray⟩ t1),(ofString "b",.str ⟨V.toArray⟩ t2),(ofString "max_cost",.int mx t3)]) news (Uc.f15_body.drop 12) []:=by
  intro U V t1 t2 t3 u hT hU1 hUV hV
  rw[hT] at hz
  clear hT lX lY eX eY z0 z40
  have lU:=str_len U
  have lV:=str_len V
  ((repeat(refine Uc.J.nil ?_));(first|(refine' Uc.J.ite ?ht ?jp ?_ ?_;(case ht=>walk_at "h");(case jp=>exact rfl))|(refine' Uc.J.ite_c ?ht ?jp ?jc ?_ ?_;(case ht=>walk_at "h");(case jp=>exact rfl);(case jc=>first|omega|skip))))<;>intro h0
  ·((repeat(refine Uc.J.nil ?_));(first|(refine' Uc.J.ret ?ht ?jp ?_;(case ht=>walk_at "h");(case jp=>exact rfl))|(refine' Uc.J.ret_c ?ht ?jp ?jc ?_;(case ht=>walk_at "h");(case jp=>exact rfl);(case jc=>first|omega|skip))))
   intro t h tk F N
   exact ret ⟨_,int_is (by rw[hz,lev3,if_pos (by omega)])⟩ F N fun _ h=>h
  (repeat(refine Uc.J.nil ?_))
  refine J.lrange U.length tb0 rfl rfl (range3 tb0 rfl rfl rfl rfl ⟨by decide,by decide⟩ ?_ ?_ ?_) (rsmall (a:=2) (b:=2*((Str.length ⟨U.toArray⟩:Int)+1)) (c:=2) (by omega) (by omega) (by omega) (by omega) (by omega) (by omega)) (rsize2 (by omega)) (by omega) rfl rfl ?_
  ·(first|(refine' Uc.Rs.holds_ok ?jp ?_;(case jp=>exact rfl))|(refine' Uc.Rs.holds_c ?jp ?jc ?_;(case jp=>exact rfl);(case jc=>first|omega|skip)));exact rfl
  ·(first|(refine' Uc.Rs.holds_ok ?jp ?_;(case jp=>exact rfl))|(refine' Uc.Rs.holds_c ?jp ?jc ?_;(case jp=>exact rfl);(case jc=>first|omega|skip)));exact rfl
  ·(first|(refine' Uc.Rs.holds_ok ?jp ?_;(case jp=>exact rfl))|(refine' Uc.Rs.holds_c ?jp ?jc ?_;(case jp=>exact rfl);(case jc=>first|omega|skip)));exact rfl
  intro l vs cnt hl hlen hvs
  ((repeat(refine Uc.J.nil ?_));(first|(refine' Uc.J.asg ?ht ?jp ?jx ?js ?_;(case ht=>walk_at "h");(case jp=>exact rfl);(case jx=>exact rfl);(case js=>exact rfl))|(refine' Uc.J.asg_c ?ht ?jp ?jx ?js ?jc ?_;(case ht=>walk_at "h");(case jp=>exact rfl);(case jx=>exact rfl);(case js=>exact rfl);(case jc=>first|omega|skip))));intro t4
  refine J.forR V.length (σ:=(List Int×List Value×Nat×Int)×Tok×Tok×Tok×Tok) (fun c=>(l,W.listOf c.1.2.1.toArray c.1.2.2.1)::news)
   (fun c=>[(ofString "a",.str ⟨U.toArray⟩ c.2.1),(ofString "b",.str ⟨V.toArray⟩ c.2.2.1),(ofString "max_cost",.int mx c.2.2.2.1),(ofString "row",.ref l),(ofString "result",.int c.1.2.2.2 c.2.2.2.2)])
   (fun i c=>lev3 U V mx=outer U mx (V.drop i) i c.1.1 c.1.2.2.2/\IntsAre c.1.2.1 c.1.1/\c.1.1.length=U.length/\c.1.2.1.length=U.length)
   ((row0 U.length,vs,cnt,0),t1,t2,t3,t4) (range1 (b:=(Str.length ⟨V.toArray⟩:Nat)) tb0 rfl rfl ?hb) (rsmall (by omega) (by omega) (by omega) (by omega) (by omega) (by omega)) (rsize1 (by omega)) hE rfl (fun _=>rfl) ⟨rfl,rfl,rfl,rfl,rfl,trivial⟩ ⟨by rw[lev3,if_neg (by omega)];rfl,hvs,by simp[row0],hlen⟩ ?turn ?done fun _ h=>h
  case hb=>(first|(refine' Uc.Rs.holds_ok ?jp ?_;(case jp=>exact rfl))|(refine' Uc.Rs.holds_c ?jp ?jc ?_;(case jp=>exact rfl);(case jc=>first|omega|skip)));exact rfl
  case done=>
   refine fpLLooooRooooR fun row ws cn res t1 t2 t3 t4=>?_
   intro u hR
   have hT:=hR.1
   dsimp only at hT ⊢
   rw[List.drop_length] at hT
   ((repeat(refine Uc.J.nil ?_));(first|(refine' Uc.J.ret ?ht ?jp ?_;(case ht=>walk_at "h");(case jp=>exact rfl))|(refine' Uc.J.ret_c ?ht ?jp ?jc ?_;(case ht=>walk_at "h");(case jp=>exact rfl);(case jc=>first|omega|skip))))
   intro t h tk F N
   exact ret ⟨_,int_is (show res=z from hT.symm.trans hz.symm)⟩ F N fun p hp=>.tail _ hp
  case turn=>
   intro i t
   refine fpLLooooRooooR fun row ws cn res t1 t2 t3 t4=>?_
   intro u I o hi hR hneI hit C1
   have hT:=hR.1
   have hI:=hR.2.1
   have hL:=hR.2.2.1
   have hw:=hR.2.2.2
   clear hR
   dsimp only at hT hI hL hw hneI ⊢
   have hV':V.drop i=V.getD i 0::V.drop (i+1):=drop_getD hi
   rw[hV'] at hT
   refine J.gen [(ofString "bindex",.int (i:Int) t),(ofString "a",.str ⟨U.toArray⟩ t1),(ofString "b",.str ⟨V.toArray⟩ t2),(ofString "max_cost",.int mx t3),(ofString "row",.ref l)] ⟨congrArg some (int_is (by omega)),rfl,rfl,rfl,rfl,trivial⟩ fun u=>?_
   ((repeat(refine Uc.J.nil ?_));(first|(refine' Uc.J.asg ?ht ?jp ?jx ?js ?_;(case ht=>walk_at "h");(case jp=>exact rfl);(case jx=>exact rfl);(case js=>exact rfl))|(refine' Uc.J.asg_c ?ht ?jp ?jx ?js ?jc ?_;(case ht=>walk_at "h");(case jp=>exact rfl);(case jx=>exact rfl);(case js=>exact rfl);(case jc=>first|omega|skip))));intro t5
   ((repeat(refine Uc.J.nil ?_));(refine' Uc.J.asgD ?ht ?jq ?jx ?jy;(case ht=>walk_at "h");(case jx=>exact rfl);(case jy=>exact rfl);(first|(refine' Uc.Rs.holds_ok ?jp ?_;(case jp=>exact rfl))|(refine' Uc.Rs.holds_c ?jp ?jc ?_;(case jp=>exact rfl);(case jc=>first|omega|skip)))));intro t6
   ((repeat(refine Uc.J.nil ?_));(first|(refine' Uc.J.asg ?ht ?jp ?jx ?js ?_;(case ht=>walk_at "h");(case jp=>exact rfl);(case jx=>exact rfl);(case js=>exact rfl))|(refine' Uc.J.asg_c ?ht ?jp ?jx ?js ?jc ?_;(case ht=>walk_at "h");(case jp=>exact rfl);(case jx=>exact rfl);(case js=>exact rfl);(case jc=>first|omega|skip))));intro t7
   dsimp only[PV.den]
   rw[item_nat _ i (by rw[lV];exact hi)]
   refine J.forR U.length (σ:=(List Int×List Value×Nat×Int×Int×Int)×Tok×Tok×Tok×Tok×Tok×Tok×Tok) (fun c=>(l,W.listOf c.1.2.1.toArray c.1.2.2.1)::news++[(I,o)])
    (fun c=>[(ofString "a",.str ⟨U.toArray⟩ c.2.1),(ofString "b",.str ⟨V.toArray⟩ c.2.2.1),(ofString "max_cost",.int mx c.2.2.2.1),(ofString "row",.ref l),(ofString "distance",.int c.1.2.2.2.1 c.2.2.2.2.1),
     (ofString "result",.int c.1.2.2.2.2.1 c.2.2.2.2.2.1),(ofString "minimum",.int c.1.2.2.2.2.2 c.2.2.2.2.2.2.1),(ofString "bchar",.str ⟨#[V.getD i 0]⟩ c.2.2.2.2.2.2.2)])
    (fun j c=>inner (V.getD i 0) U row ((i:Int)*2) ((i:Int)*2) BIG=(c.1.1.take j++(inner (V.getD i 0) (U.drop j) (c.1.1.drop j) c.1.2.2.2.1 c.1.2.2.2.2.1 c.1.2.2.2.2.2).1,(inner (V.getD i 0) (U.drop j) (c.1.1.drop j) c.1.2.2.2.1 c.1.2.2.2.2.1 c.1.2.2.2.2.2).2)
     /\IntsAre c.1.2.1 c.1.1/\c.1.1.length=U.length/\c.1.2.1.length=U.length)
    ((row,ws,cn,(i:Int)*2,(i:Int)*2,BIG),t1,t2,t3,t6,t6,t7,t5) (range1 (b:=(Str.length ⟨U.toArray⟩:Nat)) tb0 rfl rfl ?hb) (rsmall (by omega) (by omega) (by omega) (by omega) (by omega) (by omega)) (rsize1 (by omega)) hE rfl (fun _=>rfl) ⟨rfl,rfl,rfl,rfl,rfl,rfl,rfl,rfl,trivial⟩ ⟨by simp,hI,hL,hw⟩ ?turn ?done fun _ h=>h
   case hb=>(first|(refine' Uc.Rs.holds_ok ?jp ?_;(case jp=>exact rfl))|(refine' Uc.Rs.holds_c ?jp ?jc ?_;(case jp=>exact rfl);(case jc=>first|omega|skip)));exact rfl
   case done=>
    refine fpLLooooooRoooooooR fun row' ws' cn' d' res' mn' t1 t2 t3 t4 t5 t6 t7=>?_
    intro u hR
    have hJ:=hR.1
    have hI':=hR.2.1
    have hL':=hR.2.2.1
    have hw':=hR.2.2.2
    clear hR
    dsimp only at hJ hI' hL' hw' ⊢
    rw[List.drop_length,List.take_of_length_le (Nat.le_of_eq hL'),List.drop_of_length_le (Nat.le_of_eq hL')] at hJ
    rw[outer_turn hJ] at hT
    ((repeat(refine Uc.J.nil ?_));(first|(refine' Uc.J.ite ?ht ?jp ?_ ?_;(case ht=>walk_at "h");(case jp=>exact rfl))|(refine' Uc.J.ite_c ?ht ?jp ?jc ?_ ?_;(case ht=>walk_at "h");(case jp=>exact rfl);(case jc=>first|omega|skip))))<;>intro hm
    ·((repeat(refine Uc.J.nil ?_));(first|(refine' Uc.J.ret ?ht ?jp ?_;(case ht=>walk_at "h");(case jp=>exact rfl))|(refine' Uc.J.ret_c ?ht ?jp ?jc ?_;(case ht=>walk_at "h");(case jp=>exact rfl);(case jc=>first|omega|skip))))
     intro t h tk F N
     rw[if_pos hm] at hT
     exact C.post_ret (ret ⟨_,int_is (hT.symm.trans hz.symm)⟩ F N fun p hp=>.tail _ (List.mem_append_left _ hp)) _
    ·rw[if_neg hm] at hT
     (repeat(refine Uc.J.nil ?_))
     exact J.tn ((row',ws',cn',res'),_,_,_,_) ⟨rfl,rfl,rfl,rfl,rfl,trivial⟩ ⟨hT,hI',hL',hw'⟩ (by intro p hp;left;simp only[List.mem_cons,List.map_cons] at hp ⊢;rcases hp with rfl|hp<;>first|exact .inl rfl|exact .inr (List.mem_map_of_mem hp)) fun _ h=>h
   case turn=>
    intro j t
    refine fpLLooooooRoooooooR fun row' ws' cn' d' res' mn' t1 t2 t3 t4 t5 t6 t7=>?_
    intro u I' o' hj hR hneI' hit' C2
    have hJ:=hR.1
    have hI':=hR.2.1
    have hL':=hR.2.2.1
    have hw':=hR.2.2.2
    clear hR
    dsimp only at hJ hI' hL' hw' hneI' ⊢
    have l1:Str.length ⟨#[V.getD i 0]⟩=1:=rfl
    have hcj:Txt.item ⟨U.toArray⟩ (j:Int)=⟨#[U.getD j 0]⟩:=item_nat _ j (by rw[lU];exact hj)
    have l2:(Txt.item ⟨U.toArray⟩ (j:Int)).length=1:=by rw[hcj];rfl
    refine J.gen [(ofString "index",.int (j:Int) t),(ofString "a",.str ⟨U.toArray⟩ t1),(ofString "b",.str ⟨V.toArray⟩ t2),(ofString "max_cost",.int mx t3),(ofString "row",.ref l),(ofString "distance",.int d' t4),
     (ofString "result",.int res' t5),(ofString "minimum",.int mn' t6),(ofString "bchar",.str ⟨#[V.getD i 0]⟩ t7)] ⟨congrArg some (int_is (by omega)),rfl,rfl,rfl,rfl,rfl,rfl,rfl,rfl,trivial⟩ fun u=>?_
    refine' J.tab (TbOk.addF (TbOk.addI tb0 (x:=ofString "row") (.loc ?hm rfl rfl) ?hmem hI') hF) fun ht=>?_
    case hm=>exact rfl
    case hmem=>exact .inl ⟨_,.head _⟩
    ((repeat(refine Uc.J.nil ?_));(first|(refine' Uc.J.asg ?ht ?jp ?jx ?js ?_;(case ht=>walk_at "h");(case jp=>exact rfl);(case jx=>exact rfl);(case js=>exact rfl))|(refine' Uc.J.asg_c ?ht ?jp ?jx ?js ?jc ?_;(case ht=>walk_at "h");(case jp=>exact rfl);(case jx=>exact rfl);(case js=>exact rfl);(case jc=>first|omega|skip))));intro t8
    ((repeat(refine Uc.J.nil ?_));(first|(refine' Uc.J.asg ?ht ?jp ?jx ?js ?_;(case ht=>walk_at "h");(case jp=>exact rfl);(case jx=>exact rfl);(case js=>exact rfl))|(refine' Uc.J.asg_c ?ht ?jp ?jx ?js ?jc ?_;(case ht=>walk_at "h");(case jp=>exact rfl);(case jx=>exact rfl);(case js=>exact rfl);(case jc=>first|omega|skip))));intro t9
    ((repeat(refine Uc.J.nil ?_));(first|(refine' Uc.J.asg ?ht ?jp ?jx ?js ?_;(case ht=>walk_at "h");(case jp=>exact rfl);(case jx=>exact rfl);(case js=>exact rfl))|(refine' Uc.J.asg_c ?ht ?jp ?jx ?js ?jc ?_;(case ht=>walk_at "h");(case jp=>exact rfl);(case jx=>exact rfl);(case js=>exact rfl);(case jc=>first|omega|skip))));intro t10
    ((repeat(refine Uc.J.nil ?_));(first|(refine' Uc.J.asg ?ht ?jp ?jx ?js ?_;(case ht=>walk_at "h");(case jp=>exact rfl);(case jx=>exact rfl);(case js=>exact rfl))|(refine' Uc.J.asg_c ?ht ?jp ?jx ?js ?jc ?_;(case ht=>walk_at "h");(case jp=>exact rfl);(case jx=>exact rfl);(case js=>exact rfl);(case jc=>first|omega|skip))));intro t11
    dsimp only[PV.den]
    obtain⟨ρ,hρ⟩:∃ρ,ρ=min (min res' (row'.getD j 0)+2) (d'+cst (V.getD i 0) (U.getD j 0)):=⟨_,rfl⟩
    have hK:∀mn,mn=(if ρ<mn' then ρ else mn')->inner (V.getD i 0) U row ((i:Int)*2) ((i:Int)*2) BIG=((row'.set j ρ).take (j+1)++(inner (V.getD i 0) (U.drop (j+1)) ((row'.set j ρ).drop (j+1)) (row'.getD j 0) ρ mn).1,(inner (V.getD i 0) (U.drop (j+1)) ((row'.set j ρ).drop (j+1)) (row'.getD j 0) ρ mn).2):=by
     intro mn e
     subst e
     exact inner_turn hj (by rw[hL'];exact hj) hρ hJ
    have hnl:∀p∈news++[(I,o)]++[(I',o')],p.1≠l:=by
     intro p hp
     rcases List.mem_append.mp hp with hp|hp
     ·rcases List.mem_append.mp hp with hp|hp
      ·exact Nat.ne_of_lt (hl p hp)
      ·rw[List.mem_singleton.mp hp];exact(hneI _ (.head _)).symm
     ·rw[List.mem_singleton.mp hp];exact(hneI' _ (.head _)).symm
    have vρ:min (min res' (row'.getD (Int.toNat j) 0)+2) (d'+subCost ⟨#[V.getD i 0]⟩ (Txt.item ⟨U.toArray⟩ (j:Int)))=ρ:=by rw[hcj,hρ];rfl
    rw[vρ]
    refine J.seti (nw:=news++[(I,o)]++[(I',o')]) (k:=j) (v:=ρ) tb0 ?he rfl ?hi ⟨by omega,by omega⟩ hnl rfl fun t12=>?_
    case he=>(first|(refine' Uc.Rs.holds_ok ?jp ?_;(case jp=>exact rfl))|(refine' Uc.Rs.holds_c ?jp ?jc ?_;(case jp=>exact rfl);(case jc=>first|omega|skip)));exact rfl
    case hi=>(first|(refine' Uc.Rs.holds_ok ?jp ?_;(case jp=>exact rfl))|(refine' Uc.Rs.holds_c ?jp ?jc ?_;(case jp=>exact rfl);(case jc=>first|omega|skip)));exact rfl
    have fin2:∀(m':Str->Option Value) mn t,(if ρ<mn' then ρ else mn')=mn->Has m' [(ofString "a",.str ⟨U.toArray⟩ t1),(ofString "b",.str ⟨V.toArray⟩ t2),(ofString "max_cost",.int mx t3),(ofString "row",.ref l),(ofString "distance",.int (row'.getD j 0) t9),
     (ofString "result",.int ρ t11),(ofString "minimum",.int mn t),(ofString "bchar",.str ⟨#[V.getD i 0]⟩ t7)]->J C2 m' ((l,W.listOf (ws'.set j (.int ρ t12)).toArray cn')::(news++[(I,o)]++[(I',o')])) [] []:=fun m' mn t e hh=>
     J.tn ((row'.set j ρ,_,_,row'.getD j 0,ρ,mn),t1,t2,t3,_,_,_,_) hh ⟨hK _ e.symm,intsAre_set _ _ hI' j,(List.length_set ..).trans hL',(List.length_set ..).trans hw'⟩ (by first|(intro p hp;left;rcases List.mem_cons.mp hp with rfl|hp<;>first|exact List.mem_map.mpr ⟨_,.head _,rfl⟩|exact List.mem_map.mpr ⟨_,.tail _ hp,rfl⟩)|(intro p hp;left;simp only[List.mem_cons,List.map_cons] at hp ⊢;rcases hp with rfl|hp<;>first|exact .inl rfl|exact .inr (List.mem_map_of_mem hp))) fun _ h=>h
    refine J.gen [(ofString "a",.str ⟨U.toArray⟩ t1),(ofString "b",.str ⟨V.toArray⟩ t2),(ofString "max_cost",.int mx t3),(ofString "row",.ref l),(ofString "distance",.int (row'.getD j 0) t9),
     (ofString "result",.int ρ t11),(ofString "minimum",.int mn' t6),(ofString "bchar",.str ⟨#[V.getD i 0]⟩ t7)] ⟨rfl,rfl,rfl,rfl,rfl,rfl,rfl,rfl,trivial⟩ fun u=>?_
    ((repeat(refine Uc.J.nil ?_));(first|(refine' Uc.J.ite ?ht ?jp ?_ ?_;(case ht=>walk_at "h");(case jp=>exact rfl))|(refine' Uc.J.ite_c ?ht ?jp ?jc ?_ ?_;(case ht=>walk_at "h");(case jp=>exact rfl);(case jc=>first|omega|skip))))<;>intro hm
    ·((repeat(refine Uc.J.nil ?_));(first|(refine' Uc.J.asg ?ht ?jp ?jx ?js ?_;(case ht=>walk_at "h");(case jp=>exact rfl);(case jx=>exact rfl);(case js=>exact rfl))|(refine' Uc.J.asg_c ?ht ?jp ?jx ?js ?jc ?_;(case ht=>walk_at "h");(case jp=>exact rfl);(case jx=>exact rfl);(case js=>exact rfl);(case jc=>first|omega|skip))));intro t13
     (repeat(refine Uc.J.nil ?_))
     exact fin2 _ ρ t13 (if_pos hm) ⟨rfl,rfl,rfl,rfl,rfl,rfl,rfl,rfl,trivial⟩
    ·(repeat(refine Uc.J.nil ?_))
     exact fin2 _ mn' t6 (if_neg hm) ⟨rfl,rfl,rfl,rfl,rfl,rfl,rfl,rfl,trivial⟩
 ((repeat(refine Uc.J.nil ?_));(first|(refine' Uc.J.ite ?ht ?jp ?_ ?_;(case ht=>walk_at "h");(case jp=>exact rfl))|(refine' Uc.J.ite_c ?ht ?jp ?jc ?_ ?_;(case ht=>walk_at "h");(case jp=>exact rfl);(case jc=>first|omega|skip))))<;>intro hlt
 ·((repeat(refine Uc.J.nil ?_));(refine' Uc.J.asg2 ?ht rfl rfl ?jw ?jx ?jy ?_;(case ht=>walk_at "h");(case jw=>exact rfl);(case jx=>exact rfl);(case jy=>exact rfl);(first|(refine' Uc.Rs.holds_ok ?jp ?_;(case jp=>exact rfl))|(refine' Uc.Rs.holds_c ?jp ?jc ?_;(case jp=>exact rfl);(case jc=>first|omega|skip)));(first|(refine' Uc.Rs.holds_ok ?jp ?_;(case jp=>exact rfl))|(refine' Uc.Rs.holds_c ?jp ?jc ?_;(case jp=>exact rfl);(case jc=>first|omega|skip)))))
  intro t6 t7
  (repeat(refine Uc.J.nil ?_))
  refine J.gen [(ofString "a",.str ⟨Y.toArray⟩ t6),(ofString "b",.str ⟨X.toArray⟩ t7),(ofString "max_cost",.int mx tm)] ⟨rfl,rfl,rfl,trivial⟩ fun u=>?_
  exact fin Y X _ _ _ u (by rw[lev2,if_neg z0,if_neg z40,if_pos (by omega)]) (by omega) (by omega) (by omega)
 (repeat(refine Uc.J.nil ?_))
 exact fin X Y _ _ _ u (by rw[lev2,if_neg z0,if_neg z40,if_neg (by omega)]) (by omega) (by omega) (by omega)
end
end Uc
end
section
namespace Uc
section
variable (w:World)(p:Program)(loose:List Str)(mean:ExcName->Option Value)(mg mb:Str->Option Value)
theorem cod_sub {B c:Nat}(h:97<=B):((B:Int)+(c:Int)-97).toNat=B+c-97:=by(walk_at "O")
theorem item_head (c:Nat)(t:List Nat):Txt.item ⟨(c::t).toArray⟩ 0=chr1 c:=by
 unfold Txt.item Txt.charAt seqIndex?
 simp[chr1,Str.length]
theorem lig_iff (P:List Nat):([ofString "ffi",ofString "ff",ofString "fi"].any fun x=>x==(⟨P.toArray⟩:Str))=true↔P=[102,102,105]∨P=[102,102]∨P=[102,105]:=by
 constructor
 ·intro h
  by_cases a:P=[102,102,105]
  ·exact .inl a
  by_cases b:P=[102,102]
  ·exact .inr (.inl b)
  by_cases c:P=[102,105]
  ·exact .inr (.inr c)
  rw[no_lig a b c] at h
  cases h
 ·rintro(rfl|rfl|rfl)<;>rfl
set_option tactic.hygienic true in
theorem spell_c (news:List (Addr×Obj))(x:List Nat)(tx tn:Tok)(n:Nat)(hx:x.length<=8)(hc:∀c∈x,c=102∨c=105∨c=70∨c=73)(hn:n<=1000000):
  Con w p loose mean mg mb 219 12 40 [.str ⟨x.toArray⟩ tx,.int (n:Int) tn] news (fun _=>True) (fun v n'=>n'=news/\∃t,v=.str ⟨(spelled x n).toArray⟩ t):=by
 dsimp only[Con,Pm]
 k_fill
 (set_option tactic.hygienic true in intros)
 rename_i hret
 refine wpAny_call ?_
 (set_option tactic.hygienic true in k_dflt cell_enter)
 rename Fr _ _ _ _=>F0
 rename News _ _ _ _=>N0
 refine Uc.J.start (gl_ok ‹_› ‹_›) F0 N0 rfl rfl ?_
 clear F0 N0
 rename_i qk ek
 intro C
 have ret:∀{m:Str->Option Value} {v:Value} {h:Heap} {tk:Nat} {nw:Led},(fun v n'=>n'=news/\∃t,v=.str ⟨(spelled x n).toArray⟩ t) v nw->Fr C.h₀ C.L h m->News C.h₀ C.L h nw->C.Q (.ret v) (C.sg h tk):=by
  intro m v h tk nw hv F N
  dsimp only[C,qk] at F N ⊢
  exact leaveK_ F N fun kF kN=>hret _ _ _ _ hv kF kN
 have hE:PassesOwn C.M C.A C.env C.E:=PassesOwn.leaving
 refine J.step ?_
 intro h tk F N
 walk_at "X"
 rename (∀p,p∈news->p.1<_)=>hl
 refine J.next ?_ ‹_› (News.sub (b:=(_,listOf #[] 0)::news) ‹_› (by walk_at "I"))
 (refine Uc.ex1 (nameLt hl) fun l=>Uc.an2 fun hl2 hne=>?_)
 rw[<-hl2]
 clear hl hl2
 refine J.while (σ:=List Nat×Nat×List Nat×List Value×Nat×Tok×Tok×Tok) (fun c=>(l,listOf c.2.2.2.1.toArray c.2.2.2.2.1)::news)
  (fun c=>[(ofString "text",.str ⟨c.1.toArray⟩ c.2.2.2.2.2.1),(ofString "rest",.int (c.2.1:Int) c.2.2.2.2.2.2.1),(ofString "typed",.ref l),(ofString "number",.int (n:Int) c.2.2.2.2.2.2.2)])
  (fun c=>(∃k,c.1.length<=k/\typedOf x n=c.2.2.1++spell k c.1 c.2.1)/\StrsAre c.2.2.2.1 (chrs c.2.2.1)/\c.1.length+c.2.2.1.length<=8/\(∀d∈c.1,d=102∨d=105∨d=70∨d=73)/\c.2.1<=1000000)
  (fun c=>c.1.length) (x,n,[],[],0,_,_,_) (fun _=>_) (fun _ _ _=>tb0) hE ⟨rfl,rfl,rfl,rfl,trivial⟩ ⟨⟨_,Nat.le_refl _,rfl⟩,.nil,hx,hc,hn⟩ ?turn fun _ h=>h
 refine fpLooooooooR fun t r y vs cnt t1 t2 t3=>?_
 intro u hR
 (refine Uc.ah5 hR fun w31q h2 h3 h4 h5=>?_;clear hR);(refine Uc.ex1 w31q fun k=>Uc.an2 fun hk h1=>?_;clear w31q)
 dsimp only at hk h1 h2 h3 h4 h5
 dsimp -zeta only
 (first|(refine' Uc.Bs.holds_ok ?jp ?_;(case jp=>exact rfl))|(refine' Uc.Bs.holds_c ?jp ?jc ?_;(case jp=>exact rfl);(case jc=>first|omega|skip)))
 refine⟨fun hp=>?_,fun hp=>?_⟩
 ·intro C1
  cases t with
  |nil=>exact absurd rfl hp
  |cons c t=>
  clear hp
  obtain⟨k,rfl⟩:∃k',k=k'+1:=⟨k-1,by rw[List.length_cons] at hk;(walk_at "O")⟩
  rw[List.length_cons] at hk h3
  have hc4:=h4 c (.head _)
  have hvl:vs.length<=8:=by
   have:=StrsAre.length h2
   rw[this];unfold chrs;rw[List.length_map];(walk_at "O")
  have hsz:(⟨(c::t).toArray⟩:Str).length=t.length+1:=rfl
  have hp:Txt.slice ⟨(c::t).toArray⟩ none (some (3-(r:Int).fmod 3))=⟨((c::t).take (3-r%3)).toArray⟩:=slice_take (c::t) (3-r%3) _ (by
   have e3:(r:Int).fmod 3=((r%3:Nat):Int):=fmod_nat r 3
   rw[e3]
   have h9:r%3<3:=Nat.mod_lt _ (by decide)
   generalize r%3=z at h9
   (walk_at "O"))
  rw[spell_eq] at h1
  refine' J.asg_c tb0 ?jp rfl ?js ?jc fun t4=>?_
  case jp=>exact rfl
  case js=>exact rfl
  case jc=>exact⟨⟨by decide,by decide⟩,by omega⟩
  dsimp only[PV.den]
  rw[hp]
  clear hp
  obtain⟨P,hP⟩:∃P,P=(c::t).take (3-r%3):=⟨_,rfl⟩
  rw[<-hP] at h1 ⊢
  have hPl:P.length<=t.length+1:=by rw[hP,List.length_take,List.length_cons];exact Nat.min_le_right _ _
  refine J.stepJ (σ:=List Nat×Nat×List Value×Nat×Tok) (fun z=>(l,listOf z.2.2.1.toArray z.2.2.2.1)::news)
   (fun z=>[(ofString "text",.str ⟨(c::t).toArray⟩ t1),(ofString "rest",.int (r:Int) t2),(ofString "typed",.ref l),(ofString "number",.int (n:Int) t3),(ofString "piece",.str ⟨z.1.toArray⟩ z.2.2.2.2)])
   (fun z=>1<=z.1.length/\z.1.length<=t.length+1/\typedOf x n=y++(z.2.1::spell k ((c::t).drop z.1.length) (r / 30))/\StrsAre z.2.2.1 (chrs (y++[z.2.1]))) ?j1 ?j2
  case j1=>
   refine At.gen [(ofString "piece",.str ⟨P.toArray⟩ t4),(ofString "text",.str ⟨(c::t).toArray⟩ t1),(ofString "rest",.int (r:Int) t2),(ofString "typed",.ref l),(ofString "number",.int (n:Int) t3)] ⟨rfl,rfl,rfl,rfl,rfl,trivial⟩ fun u=>?_
   refine if_x (p:=P=[102,102,105]∨P=[102,102]∨P=[102,105]) (fun Q q h tk F N=>?_) (fun hlig=>?_) (fun hlig=>?_)
   ·dsimp only[Cx.sg] at F N ⊢
    walk_at "X"
    exact q _ (lig_iff P) _ _ ‹_› (News.sub ‹_› (by walk_at "I"))
   ·intro C2
    refine J.step ?_
    intro h tk F N
    dsimp only[Cx.sg] at F N ⊢
    repeat' (first|(walk_at "P")|(walk_at "V";(fail_if_success (with_reducible show wpAny _ _ (subscriptTail _ _ (Value.ref _) (Value.str _ _)) _ _ _));first|((with_reducible show wpAny _ _ (callWith _ (Value.builtin _) _ _ _) _ _ _);dsimp only;first|((with_reducible show wpAny _ _ (callWith _ (Value.builtin "list.append") _ _ _) _ _ _);refine callWith_method1 ?_)|((with_reducible show wpAny _ _ (callWith _ (Value.builtin "str.join") _ _ _) _ _ _);refine callWith_method1 ?_))|(walk_at "T")))
    clear F
    rename Fr _ _ _ _=>F
    rcases hlig with e|hlig
    ·skip
     rw[e] at hPl
     rw[if_pos e] at h1
     rw[e,show(⟨[102,102,105].toArray⟩:Str)=ofString "ffi" from by rfl] at F ⊢
     walk_at "X"
     rename News _ _ _ _=>N7
     simp only[List.push_toArray] at N7
     refine J.next ?_ ‹_› (News.drop1 N7)
     exact J.jl ([102,102,105],64259,_,_,_) rfl ⟨rfl,rfl,rfl,rfl,rfl,trivial⟩ ⟨Nat.succ_le_succ (Nat.zero_le _),hPl,h1,strs_snoc' h2 (by rfl)⟩
    rcases hlig with e|e
    ·skip
     rw[e] at hPl
     rw[if_neg (by rw[e];decide),if_pos e] at h1
     rw[e,show(⟨[102,102].toArray⟩:Str)=ofString "ff" from by rfl] at F ⊢
     walk_at "X"
     rename News _ _ _ _=>N7
     simp only[List.push_toArray] at N7
     refine J.next ?_ ‹_› (News.drop1 N7)
     exact J.jl ([102,102],64256,_,_,_) rfl ⟨rfl,rfl,rfl,rfl,rfl,trivial⟩ ⟨Nat.succ_le_succ (Nat.zero_le _),hPl,h1,strs_snoc' h2 (by rfl)⟩
    ·skip
     rw[e] at hPl
     rw[if_neg (by rw[e];decide),if_neg (by rw[e];decide),if_pos e] at h1
     rw[e,show(⟨[102,105].toArray⟩:Str)=ofString "fi" from by rfl] at F ⊢
     walk_at "X"
     rename News _ _ _ _=>N7
     simp only[List.push_toArray] at N7
     refine J.next ?_ ‹_› (News.drop1 N7)
     exact J.jl ([102,105],64257,_,_,_) rfl ⟨rfl,rfl,rfl,rfl,rfl,trivial⟩ ⟨Nat.succ_le_succ (Nat.zero_le _),hPl,h1,strs_snoc' h2 (by rfl)⟩
   ·intro C2
    rw[if_neg (fun e=>hlig (.inl e)),if_neg (fun e=>hlig (.inr (.inl e))),if_neg (fun e=>hlig (.inr (.inr e)))] at h1
    clear hlig
    obtain⟨code,hcode⟩:∃code,code=(if c=70∨c=73 then c else bases.getD (r / 3%10) 97+c-97):=⟨_,rfl⟩
    rw[<-hcode] at h1
    refine' J.asg_c tb0 ?jp rfl ?js ?jc fun t5=>?_
    case jp=>exact rfl
    case js=>exact rfl
    case jc=>rw[hsz];omega
    dsimp only[PV.den]
    rw[item_head]
    refine J.step ?_
    intro h tk F N
    dsimp only[Cx.sg] at F N ⊢
    walk_at "X"
    rename Fr _ _ _ _=>F7
    rw[base_eq] at F7
    rename News _ _ _ _=>N7
    have N8:=News.sub (b:=(l,listOf vs.toArray cnt)::news) N7 (by walk_at "I")
    refine J.next ?_ F7 N8
    have hB:=base_rng (base_in r)
    have hg:(chr1 c).cps.getD 0 0=c:=rfl
    have h1c:(chr1 c).length=1:=rfl
    refine' J.app tb0 rfl rfl hne (by omega) rfl rfl rfl ?_
    (first|(refine' Uc.Rs.holds_ok ?jp ?_;(case jp=>exact rfl))|(refine' Uc.Rs.holds_c ?jp ?jc ?_;(case jp=>exact rfl);(case jc=>first|omega|skip)))
    intro t8
    dsimp only[PV.den]
    refine J.jl ([c],code,_,_,_) rfl ⟨rfl,rfl,rfl,rfl,rfl,trivial⟩ ⟨Nat.le_refl _,Nat.succ_le_succ (Nat.zero_le _),h1,strs_snoc' h2 ?_⟩
    show _=chr1 code
    rw[hcode]
    split
    ·rename_i z
     rw[fi_occ hc4,Bool.not_eq_false',decide_eq_true_iff] at z
     rw[if_pos z]
    ·rename_i z
     rw[fi_occ hc4,Bool.not_eq_false',decide_eq_true_iff] at z
     rw[if_neg z]
     exact congrArg (fun z:Nat=>(⟨#[z]⟩:Str)) (by(try dsimp only);rw[hg];exact cod_sub hB.1)
  case j2=>
   clear h1 h2 hvl
   refine fpLoooooR fun pl code ws wc t5=>?_
   intro u hz
   (refine Uc.ah4 hz fun g1 g2 g3 g4=>?_;clear hz)
   dsimp only at g1 g2 g3 g4 ⊢
   have hpl:(⟨pl.toArray⟩:Str).length=pl.length:=len_mk pl
   refine' J.asg2 tb0 rfl rfl ?jw ?jx ?jy ?_
   case jw=>exact rfl
   case jx=>exact rfl
   case jy=>exact rfl
   (first|(refine' Uc.Rs.holds_ok ?jp ?_;(case jp=>exact rfl))|(refine' Uc.Rs.holds_c ?jp ?jc ?_;(case jp=>exact rfl);(case jc=>first|omega|skip)))
   (first|(refine' Uc.Rs.holds_ok ?jp ?_;(case jp=>exact rfl))|(refine' Uc.Rs.holds_c ?jp ?jc ?_;(case jp=>exact rfl);(case jc=>first|omega|skip)))
   intro t6 t7
   dsimp only[PV.den]
   refine J.turn ((c::t).drop pl.length,r / 30,y++[code],ws,wc,_,_,_) ⟨congrArg some (congrArg (Value.str · _) (slice_drop _ pl.length _ (congrArg (fun m:Nat=>(m:Int)) hpl))),congrArg some (congrArg (Value.int · _) (fdiv_nat r 30)),rfl,rfl,trivial⟩ ⟨⟨k,by dsimp only;rw[List.length_drop,List.length_cons];(walk_at "O"),by dsimp only;rw[g3];simp⟩,g4,?_,fun d hd=>h4 d (List.mem_of_mem_drop hd),Nat.le_trans (Nat.div_le_self _ _) h5⟩ ?_ fun _ h=>h
   ·dsimp only;rw[List.length_drop,List.length_cons,List.length_append,List.length_singleton];first|exact sub_s5 h3 g1|exact sub_s5 h4 g1|exact sub_s5 h5 g1|exact sub_s5 ‹_› g1|(walk_at "O")
   ·dsimp only;rw[List.length_drop,List.length_cons];first|exact Nat.sub_lt (Nat.succ_pos _) g1|exact sub_s4 ‹_› g1|(walk_at "O")
 ·have hvl:vs.length=y.length:=by
   have:=StrsAre.length h2
   rw[this];unfold chrs;rw[List.length_map]
  have h1':typedOf x n=y:=by
   cases t with
   |nil=>rw[h1];cases k<;>exact List.append_nil _
   |cons c t=>exact absurd (show t.length+1=0 from congrArg (fun x:Str=>x.cps.size) (Classical.not_not.mp hp)) (Nat.succ_ne_zero _)
  have hy3:y.length<=8:=by omega
  clear h1 h3 h4 h5 hk hp
  have hpz:((n:Int).fdiv 27).fmod ((vs.length:Int)+1)=((n / 27%(y.length+1):Nat):Int):=by
   rw[hvl]
   exact(congrArg (Int.fmod · ((y.length:Int)+1)) (fdiv_nat n 27)).trans (fmod_nat _ (y.length+1))
  have hpl:n / 27%(y.length+1)<=y.length:=Nat.lt_succ_iff.mp (Nat.mod_lt _ (Nat.succ_pos _))
  have hs1:StrsAre (slicePick vs.toArray none (some (((n:Int).fdiv 27).fmod ((vs.length:Int)+1))) none).toList (chrs (y.take (n / 27%(y.length+1)))):=by
   rw[hpz,slicePick_upto _ _ (by rw[List.size_toArray];(walk_at "O"))]
   have:=StrsAre.take' h2 (n / 27%(y.length+1))
   unfold chrs at this ⊢
   rw[List.map_take]
   simpa using this
  have hs2:StrsAre (slicePick vs.toArray (some (((n:Int).fdiv 27).fmod ((vs.length:Int)+1))) none none).toList (chrs (y.drop (n / 27%(y.length+1)))):=by
   rw[hpz,slicePick_from _ _ (by rw[List.size_toArray];(walk_at "O"))]
   have:=StrsAre.drop' h2 (n / 27%(y.length+1))
   unfold chrs at this ⊢
   rw[List.map_drop]
   simpa using this
  have hl1:(y.take (n / 27%(y.length+1))).length<=8:=by rw[List.length_take];exact Nat.le_trans (Nat.min_le_right _ _) hy3
  have hl2:(y.drop (n / 27%(y.length+1))).length<=8:=by rw[List.length_drop];exact Nat.le_trans (Nat.sub_le _ _) hy3
  refine J.step ?_
  intro h tk F N
  dsimp only[Cx.sg] at F N ⊢
  repeat' (first|(walk_at "P")|(walk_at "V";first|(((with_reducible show wpAny _ _ (call (Value.builtin "len") [Value.ref _]) _ _ _);refine kun_lenL (k:=((_:List Value).length:Int)) (News.isList ‹_› (by k_mem)) (by simp only[List.size_toArray];rfl) (by(walk_at "O")) ?_))|(walk_at "T")))
  refine J.next ?_ ‹_› (News.sub (b:=(l,listOf vs.toArray cnt)::news) ‹_› (by walk_at "I"))
  refine J.gen [(ofString "kind",.int ((n:Int).fmod 27) _),(ofString "place",.int (((n:Int).fdiv 27).fmod ((vs.length:Int)+1)) _),(ofString "typed",.ref l),(ofString "number",.int (n:Int) t3)] ⟨rfl,rfl,rfl,rfl,trivial⟩ fun u=>?_
  have hk27:(n:Int).fmod 27=((n%27:Nat):Int):=fmod_nat n 27
  have hk27':n%27<27:=Nat.mod_lt _ (by decide)
  refine' J.asg_c tb0 ?jp rfl ?js ?jc fun t8=>?_
  case jp=>exact rfl
  case js=>exact rfl
  case jc=>
   rw[hk27]
   refine⟨fun h=>⟨by decide,?_,?_⟩,fun h=>?_⟩
   ·show -((11:Nat):Int)<=_;omega
   ·show _<((11:Nat):Int);omega
   ·omega
  dsimp only[PV.den]
  have hsg:(@ite Str ((n:Int).fmod 27<11) (Classical.propDecidable _) (Txt.item (ofString "\u00ad\u034f\u1806\u180b\u180c\u180d\u200b\u200c\u200d\u2060\ufeff") ((n:Int).fmod 27)) ⟨#[(65013+(n:Int).fmod 27).toNat]⟩)=⟨[signOf n].toArray⟩:=by
   split
   ·exact sign_lo n ‹_›
   ·exact sign_hi n ‹_›
  rw[hsg]
  clear hsg hk27
  refine J.step ?_
  intro h tk F N
  dsimp only[Cx.sg] at F N ⊢
  repeat' (first|(walk_at "P")|(walk_at "V";first|((with_reducible show wpAny _ _ (callWith _ (Value.builtin _) _ _ _) _ _ _);dsimp only;first|((with_reducible show wpAny _ _ (callWith _ (Value.builtin "list.append") _ _ _) _ _ _);refine callWith_method1 ?_)|((with_reducible show wpAny _ _ (callWith _ (Value.builtin "str.join") _ _ _) _ _ _);refine callWith_method1 ?_))|((with_reducible show wpAny _ _ (binaryOp Operator.Add (Value.str _ _) (Value.str _ _)) _ _ _);(dsimp only;(try rw[Uc.ws_item]);refine SB.add ?_ (by first|exact Uc.add_fits2 (by(try simp only[List.length_append,List.length_cons,List.length_nil]);(walk_at "O")) (by(try simp only[List.length_append,List.length_cons,List.length_nil]);(walk_at "O"))|exact Uc.fits_c (by decide) (by rw[Uc.len_mk];(try simp only[List.length_append,List.length_cons,List.length_nil]);(walk_at "O"))|exact Uc.fits_d (by decide) (by rw[Uc.len_mk];(try simp only[List.length_append,List.length_cons,List.length_nil]);(walk_at "O")));intro _ _;first|rw[Uc.appQ1]|rw[Uc.appQ2]|rw[Uc.appB]|rw[Uc.app2]))|(((with_reducible show wpAny _ _ (call (Value.builtin _) [Value.str _ _,Value.ref _]) _ _ _);refine join_listW (News.isList ‹_› (by k_mem)) ‹_› (by decide) (Uc.chrs_w (by(walk_at "O"))) ?_;intro _ _;rw[Uc.join_chrs]))|(walk_at "T")))
  rename Fr _ _ _ _=>F5
  rw[raw_is h1'] at F5
  have hrl:=raw_len (n:=n) (x:=x) (by rw[h1'];exact hy3)
  have hrl2:=len_mk (rawOf x n)
  refine J.next ?_ F5 (News.sub (b:=(l,listOf vs.toArray cnt)::news) ‹_› (by walk_at "I"))
  clear hs1 hs2 hl1 hl2 hpz hpl F5
  refine J.gen [(ofString "raw",.str ⟨(rawOf x n).toArray⟩ _),(ofString "number",.int (n:Int) t3)] ⟨rfl,rfl,trivial⟩ fun u=>?_
  refine J.iteJ (σ:=List Nat×Tok) (fun _=>(l,listOf vs.toArray cnt)::news) (fun c=>[(ofString "raw",.str ⟨c.1.toArray⟩ c.2),(ofString "number",.int (n:Int) t3)]) (fun c=>c.1.length<=18/\spelled x n=c.1++[wsS.getD (n / 21%4) 0]) tb0 ?g1 ?g2
  case g1=>
   (first|(refine' Uc.Bs.holds_ok ?jp ?_;(case jp=>exact rfl))|(refine' Uc.Bs.holds_c ?jp ?jc ?_;(case jp=>exact rfl);(case jc=>first|omega|skip)))
   refine⟨fun h70=>?_,fun h70=>?_⟩
   ·intro C1
    refine' J.asg_c tb0 ?jp rfl ?js ?jc fun t9=>?_
    case jp=>exact rfl
    case js=>exact rfl
    case jc=>
     rw[appQ1,len_mk (34::92::rawOf x n),hrl2]
     exact⟨show 2+_<=_ by omega,show _+1<=_ by rw[List.length_cons,List.length_cons];omega⟩
    dsimp only[PV.den]
    rw[appQ1,appQ2]
    exact J.jl (_,_) rfl ⟨rfl,rfl,trivial⟩ ⟨by simp only[List.length_append,List.length_cons,List.length_nil];omega,spelled_0 ((seven n 0).mp h70)⟩
   ·intro C1
    refine ite_go tb0 ?_
    (first|(refine' Uc.Bs.holds_ok ?jp ?_;(case jp=>exact rfl))|(refine' Uc.Bs.holds_c ?jp ?jc ?_;(case jp=>exact rfl);(case jc=>first|omega|skip)))
    refine⟨fun h71=>?_,fun h71=>?_⟩
    ·refine J.step ?_
     intro h tk F N
     dsimp only[Cx.sg] at F N ⊢
     repeat' (first|(walk_at "P")|(walk_at "V";first|((with_reducible show wpAny _ _ (callWith _ (Value.builtin _) _ _ _) _ _ _);dsimp only;first|((with_reducible show wpAny _ _ (callWith _ (Value.builtin "list.append") _ _ _) _ _ _);refine callWith_method1 ?_)|((with_reducible show wpAny _ _ (callWith _ (Value.builtin "str.join") _ _ _) _ _ _);refine callWith_method1 ?_))|((with_reducible show wpAny _ _ (eval (Expr.ListComp _ _ _ _) _) _ _ _);(k_dflt (refine Uc.comp_str (by rfl) (by decide) (by rfl) (by decide) (by rfl) ?_ (by intro _;rfl))))|(walk_at "T")))
     rename Fr _ _ _ _=>F7
     rename News _ _ _ _=>N7
     refine Uc.ei7 _ _ _ (⟨(rawOf x n).toArray⟩) _ _ (fun i ys nw=>nw=(l,listOf vs.toArray cnt)::news/\StrsAre ys (((rawOf x n).take i).map esc1)) ⟨rfl,rfl,F7,News.sub N7 (by walk_at "I"),by rw[hrl2];(walk_at "O"),⟨rfl,.nil⟩,?T,?fin⟩
     case T=>
      intro g i v ys nw I oI C oC D m₂ h tk E' hi w32q w33q _ hoC hm2 F N off w34q;(refine Uc.ex2 w32q fun c t=>Uc.an2 fun hc e1q=>?_;clear w32q;subst e1q);(refine Uc.ah2 w33q fun e1q hR=>?_;clear w33q;subst e1q);(refine Uc.ah3 w34q fun d1 d2 d3=>?_;clear w34q)
      refine wpAny_tests_nil ?_
      simp only[if_true]
      repeat' (first|(walk_at "P")|(walk_at "V";first|((with_reducible show wpAny _ _ (binaryOp Operator.Add (Value.str _ _) (Value.str _ _)) _ _ _);(dsimp only;(try rw[Uc.ws_item]);refine SB.add ?_ (by first|exact Uc.add_fits2 (by(try simp only[List.length_append,List.length_cons,List.length_nil]);(walk_at "O")) (by(try simp only[List.length_append,List.length_cons,List.length_nil]);(walk_at "O"))|exact Uc.fits_c (by decide) (by rw[Uc.len_mk];(try simp only[List.length_append,List.length_cons,List.length_nil]);(walk_at "O"))|exact Uc.fits_d (by decide) (by rw[Uc.len_mk];(try simp only[List.length_append,List.length_cons,List.length_nil]);(walk_at "O")));intro _ _;first|rw[Uc.appQ1]|rw[Uc.appQ2]|rw[Uc.appB]|rw[Uc.app2]))|(walk_at "T")))
      have hcl:(rawOf x n)[i]? =some c:=by simpa using hc
      refine TurnC.mk ((l,listOf vs.toArray cnt)::news) ‹_› ‹_› (fun _ h=>h) off ⟨trivial,rfl,?_⟩
      rw[List.take_succ,hcl,List.map_append]
      exact StrsAre.append' hR (.cons _ _ .nil)
     case fin=>
      rintro D h tk ys nw ⟨rfl,hR⟩ F N o1
      rw[hrl2,List.take_of_length_le (Nat.le_refl _)] at hR
      walk_at "X"
      refine join_listW (ys:=(rawOf x n).map esc1) (News.isList N (.head _)) hR (Nat.zero_le _) (esc_w (by(walk_at "O"))) ?_
      intro t' k'
      rw[join_esc]
      have hfl:((rawOf x n).map fun c=>[92,c]).flatten.length<=18:=by
       have e:∀l:List Nat,(l.map fun c=>[92,c]).flatten.length=2*l.length:=fun l=>by
        induction l with
        |nil=>rfl
        |cons c l ih=>simp only[List.map_cons,List.flatten_cons,List.length_append,ih,List.length_cons,List.length_nil];(walk_at "O")
       rw[e];(walk_at "O")
      walk_at "X"
      refine J.next ?_ ‹_› (News.sub (b:=(l,listOf vs.toArray cnt)::news) ‹_› (by walk_at "I"))
      refine J.nil ?_
      exact J.jl (_,_) rfl ⟨rfl,rfl,trivial⟩ ⟨hfl,spelled_1 ((seven n 1).mp h71)⟩
    ·refine J.nil ?_
     exact J.jl (_,_) rfl ⟨rfl,rfl,trivial⟩ ⟨Nat.le_trans hrl (by decide),spelled_2 (fun e=>h70 ((seven n 0).mpr e)) (fun e=>h71 ((seven n 1).mpr e))⟩
  case g2=>
   refine fpLooR fun R t9=>?_
   intro u hR
   obtain⟨hR8,hsp⟩:=hR
   dsimp only at hR8 hsp ⊢
   refine' J.ret_c tb0 ?jp ?jc ?_
   case jp=>exact rfl
   case jc=>
    have q21:((n:Int).fdiv 21).fmod 4=((n / 21%4:Nat):Int):=(congrArg (Int.fmod · 4) (fdiv_nat n 21)).trans (fmod_nat _ 4)
    have hw4:n / 21%4<4:=Nat.mod_lt _ (by decide)
    rw[ws_item,q21,len_mk]
    refine⟨⟨⟨⟨by decide,by decide⟩,by decide,by decide⟩,by decide,?_,?_⟩,?_⟩
    ·show -((4:Nat):Int)<=_;omega
    ·show _<((4:Nat):Int);omega
    ·show R.length+1<=_;omega
   dsimp only[PV.den]
   rw[ws_item,app2, <-hsp]
   intro t h tk F N
   exact ret ⟨rfl,_,rfl⟩ F (News.sub N fun _ h=>.tail _ h)
end
end Uc
end
section
namespace Uc
theorem lpm {α:Type}{a:α}{l L:List α}(ha:a∈L)(h:∀p∈l,p∈L):∀p∈a::l,p∈L:=fun p hp=>(List.mem_cons.mp hp).elim (fun e=>e▸ha) (h p)
theorem lexPerm {α:Type}{a0 a1 a2 a3 a4 a5 a6 a7 a8 a9:α}{t:List α}:∀p∈a1::a2::a0::a6::a3::a4::a5::a9::a8::t,p∈a0::a1::a2::a3::a4::a5::a6::a7::a8::a9::t:=
 lpm (.tail _ (.head _)) (lpm (.tail _ (.tail _ (.head _))) (lpm (.head _) (lpm (.tail _ (.tail _ (.tail _ (.tail _ (.tail _ (.tail _ (.head _))))))) (lpm (.tail _ (.tail _ (.tail _ (.head _)))) (lpm (.tail _ (.tail _ (.tail _ (.tail _ (.head _))))) (lpm (.tail _ (.tail _ (.tail _ (.tail _ (.tail _ (.head _)))))) (lpm (.tail _ (.tail _ (.tail _ (.tail _ (.tail _ (.tail _ (.tail _ (.tail _ (.tail _ (.head _)))))))))) (lpm (.tail _ (.tail _ (.tail _ (.tail _ (.tail _ (.tail _ (.tail _ (.tail _ (.head _))))))))) (fun _ h=>.tail _ (.tail _ (.tail _ (.tail _ (.tail _ (.tail _ (.tail _ (.tail _ (.tail _ (.tail _ h))))))))))))))))))
theorem lex_pack (w:World){h₀ h:Heap}{L PB X D SD RF RC SF c1 SG CC:Addr}{fd:FuncData}{pm ct:Value}{oc oC o1:Obj}{tw k0 k1 k2 k3 kr tl:Tok}{vc:Array Value}{tq:Tok}(hc1:oc.data=.fields vc)(hc2:vc[1]? =some (.str rdQual tq)){tps:Array Value}{news:List (Addr×Obj)}{ss:List Value}{sn pn:Nat}
  (N:News h₀ L h ((PB,listOf #[] pn)::(X,instObj 59 D)::(D,dictOf [{ hash:=PyData.keyHash w.params (ofString "lineno"),key:=Value.str (ofString "lineno") k0,val:=.int 1 tl },
  { hash:=PyData.keyHash w.params (ofString "instream"),key:=Value.str (ofString "instream") k1,val:=.ref SF },
  { hash:=PyData.keyHash w.params (ofString "whitespace"),key:=Value.str (ofString "whitespace") k2,val:=.str (ofString "\n\t\r ") tw },
  { hash:=PyData.keyHash w.params (ofString "pushback"),key:=Value.str (ofString "pushback") k3,val:=.ref PB }] 4)::
  (SD,dictOf [{ hash:=PyData.keyHash w.params (ofString "read"),key:=Value.str (ofString "read") kr,val:=.ref RF }] 1)::(RF,rdO pm CC RC ct)::(RC,oc)::(SF,fnO fd (some SD))::(c1,o1)::(SG,listOf ss.toArray sn)::(CC,oC)::(209,tabObj tps)::news)):
  News h₀ L h (lexLed w ⟨X,D,PB,SF,SD,RF,RC,CC,SG,fd,pm,ct,oc,oC,vc,tq,tw,k0,k1,k2,k3,kr⟩ 1 tl [] pn ss sn++(209,tabObj tps)::news):=News.sub N lexPerm
section
variable (w:World)(p:Program)(loose:List Str)(mean:ExcName->Option Value)(mg mb:Str->Option Value)
theorem lexer_make (news:List (Addr×Obj))(x:Str)(tx:Tok)(hx:x.length<=1000)(hn0:∀q∈news,q.1≠209):
  Con w p loose mean mg mb 214 12 40 [.str x tx] ((209,tabObj #[])::news) (fun h=>CodeHd h 213 209) (fun v n=>∃q tl pn ss sn tps,n=lexLed w q 1 tl [] pn ss sn++(209,tabObj tps)::news/\v=.ref q.X/\StrsAre ss (chrs x.cps.toList)/\LexOk q ((209,tabObj tps)::news)/\AllLt q.CC ((209,tabObj tps)::news)):=by
 dsimp only[Con,Pm]
 k_fill
 (set_option tactic.hygienic true in intros)
 rename_i hret
 refine wpAny_call ?_
 k_dflt (refine' code_defC ?k1 ?k2 ?k3 ?k4 ?k5 ?kA ?kF ?kK ?k6 ?k7 ?k8 ?k9 ?kB ?kD ?_ ?c2 ?c3 ?c4;(case kA=>exact rfl);(case kF=>exact rfl);(case kK=>assumption);(case k1=>k_asm);(case k2=>k_asm);(case k3=>k_asm);(case k4=>k_asm);(case k5=>k_asm);(case k6=>k_is);(case k7=>k_is);(case k8=>ktr_room);(case k9=>exact BindsTo.of_eq rfl);(case kB=>exact rfl);(case kD=>decide+kernel);(case c2=>exact rfl);(case c3=>exact rfl);(case c4=>exact rfl);k_whole;intro g' L' h' tk' cells' FG' F' N' Y' B' X' T' l1;(try k_lt l1);k_cells Y';(try simp only[List.cons_append,List.nil_append] at N');(try dsimp only);(try k_lift B');(try k_fold))
 rename (209<L'/\AllLt L' news)=>l9
 have hNL:AllLt L' news:=l9.2
 have hn1:∀q∈news,q.1≠L'+1:=fun q hq=>Nat.ne_of_lt (Nat.lt_succ_of_lt (allLt_all l9.2 q hq))
 repeat' (first|(walk_at "P")|(walk_at "V";first|(((with_reducible show wpAny _ _ (setAttr (Value.ref _) (ofString "read") _) _ _ _);k_dflt (refine' Uc.fn_setattrU ?F ?N ?U Uc.fn_noread ?_;(case F=>k_asm);(case N=>k_asm);(case U=>k_updF);k_whole);intro h' d' F' N' hAll;(have l1:=allLt_of hAll);clear hAll;(try dsimp only[AllLt] at l1);(try dsimp only at N');(try k_sweep)))|(((with_reducible show wpAny _ _ (call (Value.type _) [Value.str _ _]) _ _ _);(refine Uc.list_strK rfl ‹_› ‹_› (by(walk_at "O")) ?_);intro h' tk' vs' cnt' l' F' N' hAll hStrs;(have l1:=allLt_of hAll);clear hAll;(try dsimp only[AllLt] at l1)))|(walk_at "T")))
 k_dflt (refine' call_cls ?k1 ?k2 ?k3 ?k4 ?k5 ?k6 ?_;(case k1=>k_asm);(case k2=>k_asm);(case k3=>k_asm);(case k4=>k_is);(case k5=>k_is);(case k6=>k_is);k_whole)
 intro x' d' h' F' N' l1 l2
 (try k_lt l1);(try k_lt2 l2);(try k_sweep)
 k_dflt (refine' code_def ?k1 ?k2 ?k3 ?k4 ?k5 ?kA ?kF ?kK ?k6 ?k7 ?k8 ?k9 ?kB ?_ ?c2 ?c3 ?c4 ?c5;(case kA=>exact rfl);(case kF=>exact rfl);(case kK=>exact rfl);(case k1=>k_asm);(case k2=>k_asm);(case k3=>k_asm);(case k4=>k_asm);(case k5=>k_asm);(case k6=>k_is);(case k7=>k_is);(case k8=>ktr_room);(case k9=>exact BindsTo.of_eq rfl);(case c5=>decide);(case kB=>exact locs rfl);(case c2=>exact rfl);(case c3=>exact rfl);(case c4=>exact rfl);k_whole;intro g2' L2' h2' FG2' F2' N2' B2' X2' T2';(try dsimp only);(try k_lift B2');(try k_fold))
 walk_at "X"
 rename News _ _ _ (_::_::_::_::_::_::_::_::_::_::_::news)=>kN
 rename (_=Data.cell (some _))=>c3
 rename (_=Data.fields _)=>c1
 rename (_=some (Value.str (_++ofString "<lambda>") _))=>c2
 rename (_<_/\_<_/\_<_/\_<_/\_<_/\_<_/\_<_/\_<_/\_<_/\209<_/\AllLt _ news)=>lz
 have ltA:AllLt (L'+1) news:=allLt_of fun q hq=>Nat.lt_succ_of_lt (allLt_all (show AllLt L' news from hNL) q hq)
 have lt212:@LT.lt Nat _ 209 (L'+1):=by have:=ltN l9.1;(walk_at "O")
 rename StrsAre _ (signs x)=>hStrs
 have ltL:∀o:Obj,AllLt (L'+1) ((209,o)::news):=fun o=>⟨lt212,ltA⟩
 refine hret _ _ _ _ ?R ‹_› (lex_pack w c1 c2 kN)
 refine Uc.ei6 _ _ _ _ _ _ ⟨rfl,rfl,hStrs,⟨c1,c2,c3,?_,?_,?_,?_,?_,?_,?_,?_,?_,?_,?_⟩,ltL _⟩
 all_goals (try dsimp only)
 all_goals first|(refine ltN ?_;(walk_at "O"))|(refine allLt_ne2 (ltL _) ?_;(try dsimp only);(walk_at "O"))
end
end Uc
end
section
namespace Uc
theorem intsAre_get {vs:List Value}{ns:List Int}(h:IntsAre vs ns):∀k:Nat,(vs[k]? =none/\ns[k]? =none)∨∃n t,vs[k]? =some (.int n t)/\ns[k]? =some n:=by
 induction h with
 |nil=>intro k;exact .inl ⟨rfl,rfl⟩
 |cons n t h ih=>
  intro k
  cases k with
  |zero=>exact .inr ⟨n,t,rfl,rfl⟩
  |succ k=>exact ih k
theorem intsAre_pick {vs:List Value}{ns:List Int}(h:IntsAre vs ns):∀idx:List Nat,IntsAre (idx.filterMap (vs.toArray[·]?)) (idx.filterMap (ns[·]?))
 | []=>.nil
 |k::idx=>by
  have e:vs.toArray[k]? =vs[k]? :=by simp
  rw[List.filterMap_cons,List.filterMap_cons,e]
  rcases intsAre_get h k with ⟨a,b⟩|⟨n,t,a,b⟩
  ·rw[a,b];exact intsAre_pick h idx
  ·rw[a,b];exact .cons n t (intsAre_pick h idx)
section
variable {prog:Program}{w:World}{A:Around}{E:Value->Shared->Prop}{s:Shared}{h₀:Heap}{L l:Addr}{m:Str->Option Value}{news:List (Addr×Obj)}{value slice:Expr}{vs:List Value}{ns:List Int}{vl vu vk:Value}{lo hi st:Option Int}{ops:List Value}{Q:Value->Shared->Prop}
theorem slice3_ints (F:Fr h₀ L s.heap m)(N:News h₀ L s.heap news)(hl:s.heap.IsList l vs.toArray)(pl:IsPart vl lo)(pu:IsPart vu hi)(pk:IsPart vk st)(h0:st≠some 0)(hi':IntsAre vs ns)
  (h:∀D ws ms h',Fr h₀ L h' m->News h₀ L h' ((D,listOf (List.toArray ws) 0)::news)->(∀p∈news,p.1<D)->IntsAre ws ms->Q (.ref D) { s with heap:=h' })
  (hs:subscripted slice false (.ref l) (.ref s.heap.objs.size)=operate ops (getItem (.ref l) (.ref s.heap.objs.size))) (ht:∀r,letTemporaryGo value (.ref l) r=pure ()) (hz:vs.toArray.size<=sizeLine):
  wpAny (model prog w) A (subscriptTail value slice (.ref l) (.ref s.heap.objs.size)) Q E { s with heap:=s.heap.push { cls:=.type "slice",data:=.fields #[vl,vu,vk] } }:=by
 have key:∃ms,IntsAre (slicePick vs.toArray lo hi st).toList ms:=⟨_,by
  unfold slicePick
  rw[List.toList_toArray]
  exact intsAre_pick hi' _⟩
 obtain⟨ms,hm⟩:=key
 refine slice_list3 F N hl pl pu pk h0 (fun h' F' N'=>h _ (slicePick vs.toArray lo hi st).toList ms h' F' (by rw[Array.toArray_toList];exact N') (fun p hp=>Nat.lt_succ_of_lt (Heap.lt_size (N p hp).1)) hm) hs ht hz
end
theorem nameLed {h₀ h:Heap}{L:Addr}{l:Led}(N:News h₀ L h l):∃led,l=led/\News h₀ L h led:=⟨l,rfl,N⟩
theorem intsAre_snoc {ys:List Value}{ns:List Nat}(h:IntsAre ys (ns.map fun(n:Nat)=>(n:Int))){x:Int}{t:Tok}{k:Nat}(e:x=(k:Int)):IntsAre (ys++[.int x t]) ((ns++[k]).map fun(n:Nat)=>(n:Int)):=by
 rw[List.map_append,e]
 exact IntsAre.append h (.cons _ _ .nil)
theorem mod_million (a:Int):∃k:Nat,k<1000000/\a.fmod (10^Int.toNat 6)=(k:Int):=by
 have e:(10:Int)^Int.toNat 6=1000000:=by decide
 rw[e,Int.fmod_eq_emod_of_nonneg _ (by decide)]
 refine⟨(a%1000000).toNat,?_,?_⟩
 ·have:=Int.emod_lt_of_pos a (show(0:Int)<1000000 by decide)
  have:=Int.emod_nonneg a (show(1000000:Int)≠0 by decide)
  omega
 ·have:=Int.emod_nonneg a (show(1000000:Int)≠0 by decide)
  omega
end Uc
end
section
namespace Uc
open PyProof.Rows.LCg
section
variable {prog:Program}{w:World}{A:Around}{E:Value->Shared->Prop}{s:Shared}{h₀:Heap}{L:Addr}{m:Str->Option Value}{env:Env}
noncomputable abbrev nestE (elt iter iter₂:Expr)(x x₂:Str)(px px₂:Pos)(scope:Scope)(pos:Pos):Expr:=.ListComp elt [⟨.Name x px,iter,[],0⟩,⟨.Name x₂ px₂,iter₂,[],0⟩] scope pos
theorem nest_turn0 (elt iter iter₂:Expr)(x x₂:Str)(px px₂:Pos)(scope:Scope)(pos:Pos)(it acc:Value)(env:Env):
  compTurn (nestE elt iter iter₂ x x₂ px px₂ scope pos) 0 it acc env=(standAt iter.pos>>=fun _=>pyNext it>>=fun r=>match r with
   |none=>pure (.done .next)
   |some v=>(letOwnedTupleGo (.Name x px) it v)>>=fun _=>assign (.Name x px) env v>>=fun _=>eval iter₂ env>>=fun y=>standAt iter₂.pos>>=fun _=>foldedSetIterable iter₂ env y>>=fun y=>
    (holding [y] (pyIter y))>>=fun it₂=>runOwn (.compStart (nestE elt iter iter₂ x x₂ px px₂ scope pos) 1 it₂ acc env) env>>=fun _=>
     again (.compLoop (nestE elt iter iter₂ x x₂ px px₂ scope pos) 0 it acc env)):=by rfl
theorem nest_turn1 (elt iter iter₂:Expr)(x x₂:Str)(px px₂:Pos)(scope:Scope)(pos:Pos)(it acc:Value)(env:Env):
  compTurn (nestE elt iter iter₂ x x₂ px px₂ scope pos) 1 it acc env=(standAt iter₂.pos>>=fun _=>pyNext it>>=fun r=>match r with
   |none=>pure (.done .next)
   |some v=>(letOwnedTupleGo (.Name x₂ px₂) it v)>>=fun _=>assign (.Name x₂ px₂) env v>>=fun _=>(eval elt env>>=fun y=>call (.builtin "list.append") [acc,y]>>=fun _=>pure ())>>=fun _=>
     again (.compLoop (nestE elt iter iter₂ x x₂ px px₂ scope pos) 1 it acc env)):=by rfl
theorem nest_start1 {elt iter iter₂:Expr}{x x₂:Str}{px px₂:Pos}{scope:Scope}{pos:Pos}{it acc:Value}{env:Env}{R:Result->Shared->Prop}{s:Shared}
  (h0:codeAny (model prog w) A (.compLoop (nestE elt iter iter₂ x x₂ px px₂ scope pos) 1 it acc env) R s)
  (h:wpAny (model prog w) A (pyIter it) (fun it' s'=>codeAny (model prog w) A (.compLoop (nestE elt iter iter₂ x x₂ px px₂ scope pos) 1 it' acc env) R s')
   (notedBy (model prog w) A env fun x s'=>R (.error x) s') s):
  codeAny (model prog w) A (.compStart (nestE elt iter iter₂ x x₂ px px₂ scope pos) 1 it acc env) R s:=by
 refine codeAny_of_tree ?_
 show wpAny _ _ ((compStart (nestE elt iter iter₂ x x₂ px px₂ scope pos) 1 it acc env).onRaise (fun x=>do noteFrame x env;standAt theWindowsPlace)) _ _ s
 refine wpAny_notedAt ?_
 unfold compStart
 show wpAny _ _ (ask>>=_) _ _ s
 refine wpAny_bind (wpAny_askSetting (wpAny_ite ?_))
 split
 ·first
   |exact wpAny_bind (wpAny_pure (wpAny_pure (And.intro rfl h0)))
   |exact wpAny_pure (And.intro rfl h0)
 ·first
   |exact wpAny_bind (wpAny_rule (wpAny_bind (wpAny_standAt (wpAny_bind (wpAny_mono h (fun it' s' h'=>wpAny_pure (And.intro rfl h')) fun _ _ x=>x)))))
   |(refine wpAny_bind (wpAny_rule ?_);show wpAny _ _ (standAt iter₂.pos>>=_) _ _ s;exact wpAny_bind (wpAny_standAt (wpAny_bind (wpAny_mono h (fun it' s' h'=>wpAny_pure (And.intro rfl h')) fun _ _ x=>x))))
theorem nest_loop0 {elt iter iter₂:Expr}{x x₂:Str}{px px₂:Pos}{scope:Scope}{pos:Pos}{it acc:Value}{env:Env}{R:Result->Shared->Prop}{s:Shared}(hf:∀y,foldedSetIterable iter₂ env y=pure y)(I:Nat->Shared->Prop)
  (turn:∀n s,I n s->wpAny (model prog w) A (pyNext it) (fun r s₁=>match r with
   |none=>R (.ok .next) s₁
   |some v=>wpAny (model prog w) A (assign (.Name x px) env v) (fun _ s₂=>wpAny (model prog w) A (eval iter₂ env) (fun y s₃=>wpAny (model prog w) A (pyIter y) (fun it₂ s₄=>
     codeAny (model prog w) A (.compStart (nestE elt iter iter₂ x x₂ px px₂ scope pos) 1 it₂ acc env) (fun r s'=>match r with| .ok _=>∃m,m<n/\I m s'| .error e=>cameBackBy (model prog w) A env (notedBy (model prog w) A env fun e s'=>R (.error e) s') e s') s₄)
      (notedBy (model prog w) A env fun e s'=>R (.error e) s') s₃) (notedBy (model prog w) A env fun e s'=>R (.error e) s') s₂) (notedBy (model prog w) A env fun e s'=>R (.error e) s') s₁) (notedBy (model prog w) A env fun e s'=>R (.error e) s') s)
  (n:Nat) (h:I n s):codeAny (model prog w) A (.compLoop (nestE elt iter iter₂ x x₂ px px₂ scope pos) 0 it acc env) R s:=by
 refine codeAny_loop rfl I (fun n s hI=>?_) n h
 show wpAny _ A ((compTurn (nestE elt iter iter₂ x x₂ px px₂ scope pos) 0 it acc env).onRaise (fun x=>do noteFrame x env;theTreesLotGoes x)) _ _ s
 refine wpAny_noted ?_
 rw[nest_turn0]
 refine wpAny_bind (wpAny_standAt (wpAny_bind (wpAny_mono (turn n s hI) (fun r s₁ h₁=>?_) fun _ _ h'=>h')))
 cases r with
 |none=>exact wpAny_pure h₁
 |some v=>
  refine wpAny_bind (wpAny_of_eq (show letOwnedTupleGo (.Name x px) it v=pure () from rfl) ?_)
  refine wpAny_bind (wpAny_mono h₁ (fun _ s₂ h₂=>wpAny_bind (wpAny_mono h₂ (fun y s₃ h₃=>wpAny_bind (wpAny_standAt (wpAny_bind (wpAny_of_eq (hf y) (wpAny_bind (wpAny_holding (wpAny_mono h₃ (fun it₂ s₄ h₄=>?_) fun _ _ h'=>h'))))))) fun _ _ h'=>h')) fun _ _ h'=>h')
  refine wpAny_bind (wpAny_runOwn ?_)
  rw[Around.mark_none]
  refine codeAny_mono h₄ fun r s' hr=>?_
  cases r with
  |ok f=>exact wpAny_pure ⟨rfl,hr⟩
  |error e=>exact hr
theorem nest_loop1 {elt iter iter₂:Expr}{x x₂:Str}{px px₂:Pos}{scope:Scope}{pos:Pos}{it acc:Value}{env:Env}{R:Result->Shared->Prop}{s:Shared}(I:Nat->Shared->Prop)
  (turn:∀n s,I n s->wpAny (model prog w) A (pyNext it) (fun r s₁=>match r with
   |none=>R (.ok .next) s₁
   |some v=>wpAny (model prog w) A (assign (.Name x₂ px₂) env v) (fun _ s₂=>wpAny (model prog w) A (eval elt env) (fun y s₃=>
     wpAny (model prog w) A (call (.builtin "list.append") [acc,y]) (fun _ s₄=>∃m,m<n/\I m s₄) (notedBy (model prog w) A env fun e s'=>R (.error e) s') s₃)
     (notedBy (model prog w) A env fun e s'=>R (.error e) s') s₂) (notedBy (model prog w) A env fun e s'=>R (.error e) s') s₁) (notedBy (model prog w) A env fun e s'=>R (.error e) s') s)
  (n:Nat) (h:I n s):codeAny (model prog w) A (.compLoop (nestE elt iter iter₂ x x₂ px px₂ scope pos) 1 it acc env) R s:=by
 refine codeAny_loop rfl I (fun n s hI=>?_) n h
 show wpAny _ A ((compTurn (nestE elt iter iter₂ x x₂ px px₂ scope pos) 1 it acc env).onRaise (fun x=>do noteFrame x env;theTreesLotGoes x)) _ _ s
 refine wpAny_noted ?_
 rw[nest_turn1]
 refine wpAny_bind (wpAny_standAt (wpAny_bind (wpAny_mono (turn n s hI) (fun r s₁ h₁=>?_) fun _ _ h'=>h')))
 cases r with
 |none=>exact wpAny_pure h₁
 |some v=>
  refine wpAny_bind (wpAny_of_eq (show letOwnedTupleGo (.Name x₂ px₂) it v=pure () from rfl) ?_)
  exact wpAny_bind (wpAny_mono h₁ (fun _ s₂ h₂=>wpAny_bind (wpAny_bind (wpAny_mono h₂ (fun y s₃ h₃=>wpAny_bind (wpAny_mono h₃
   (fun _ s₄ h₄=>wpAny_pure (wpAny_pure ⟨rfl,h₄⟩)) fun _ _ h'=>h')) fun _ _ h'=>h'))) fun _ _ h'=>h')
noncomputable abbrev RngIt (J:Addr)(k j:Nat)(h:Heap):Prop:=IsRangeIter h J ((j:Nat):Int) ((k:Int)-(j:Nat)) 1
noncomputable def CompNA (prog:Program)(w:World)(A:Around)(env:Env)(elt iter₂:Expr)(x x₂:Str)(scope:Scope)(cl:List (Str×Addr))(y:Str)(Q:Flow->Shared->Prop)(xv:Value)(s₁:Shared):Prop:=
 ∃(h₀:Heap) (m:Str->Option Value) (r:Addr) (b:Int) (t u v:Tok) (n:Nat) (news:Led) (cnt:Nat->Nat) (R:Nat->Nat->List Value->Prop),xv=.ref r/\A.handled=none/\Fr h₀ env.locals s₁.heap m/\News h₀ env.locals s₁.heap news/\IsRange s₁.heap r 0 b 1 t u v/\b=(n:Int)/\n<=1000/\(∀i,i<n->cnt i<=1000)/\R 0 0 []/\(∀i ys,i<n->R i (cnt i) ys->R (i+1) 0 ys)/\(∀i j ys,R i j ys->ys.length<=100000)/\
  (∀g i ys I oI C oC D m₂ h tk tx (E':Value->Shared->Prop),i<n->NsObj oC m₂->m₂ x=some (.int (i:Int) tx)->Fr h₀ env.locals h m->News h₀ env.locals h ((I,oI)::(C,oC)::(D,lst ys)::news)->Off3 I C D news->((@Ne Nat I C)/\(@Ne Nat I D)/\(@Ne Nat C D))->
   wpAny (model prog w) A (eval iter₂ (compEnvC scope cl C env)) (fun rv s₃=>∃r t u v h' tk',s₃={ { s₁ with heap:=g } with heap:=h',toks:=tk' }/\rv=.ref r/\IsRange h' r 0 ((cnt i:Nat):Int) 1 t u v/\Fr h₀ env.locals h' m/\News h₀ env.locals h' ((I,oI)::(C,oC)::(D,lst ys)::news)) E' { { s₁ with heap:=g } with heap:=h,toks:=tk })/\
  (∀g i j ys I oI C oC D m₂ h tk tx ty (E':Value->Shared->Prop),i<n->j<cnt i->R i j ys->NsObj oC m₂->m₂ x=some (.int (i:Int) tx)->m₂ x₂=some (.int (j:Int) ty)->Fr h₀ env.locals h m->News h₀ env.locals h ((I,oI)::(C,oC)::(D,lst ys)::news)->Off3 I C D news->((@Ne Nat I C)/\(@Ne Nat I D)/\(@Ne Nat C D))->
   wpAny (model prog w) A (eval elt (compEnvC scope cl C env)) (fun y s₄=>(∃tk',s₄={ { s₁ with heap:=g } with heap:=h,toks:=tk' })/\R i (j+1) (ys++[y])) E' { { s₁ with heap:=g } with heap:=h,toks:=tk })/\
  ∀D h tk ys,R n 0 ys->Fr h₀ env.locals h (fun q=>if q=y then some (.ref D) else m q)->News h₀ env.locals h ((D,lst ys)::news)->Off1 D news->Q .next { s₁ with heap:=h,toks:=tk }
theorem comp_nestA {elt iter iter₂:Expr}{x x₂ y:Str}{px px₂ py:Pos}{scope:Scope}{cl:List (Str×Addr)}{pos spos:Pos}{Q:Flow->Shared->Prop}
  (hsw:swapsWith (nestE elt iter iter₂ x x₂ px px₂ scope pos) (some (.Name y py)) spos.line env=pure true)
  (hclos:closureFor scope env=pure cl) (hcell:∀y∈scope.names,y.2≠.cell) (hkind:scope.kind=.function)
  (hnames:∀y∈scope.names,y.2=.local->scope.names.lookup y.1=some .local) (hx:scope.names.lookup x=some .local) (hx₂:scope.names.lookup x₂=some .local) (hxx:x≠x₂)
  (hy:env.kindOf y=some .local) (hp':(env.scope.kind==.class||(env.scope.kind==.module&&env.locals !=env.globals))=false)
  (h:wpAny (model prog w) A (eval iter env) (CompNA prog w A env elt iter₂ x x₂ scope cl y Q) E s)
  (hs:∀x,foldedSetIterable iter env x=pure x) (hs₂:∀env y,foldedSetIterable iter₂ env y=pure y):
  wpAny (model prog w) A (exec (.Assign [.Name y py] (.ListComp elt [⟨.Name x px,iter,[],0⟩,⟨.Name x₂ px₂,iter₂,[],0⟩] scope pos) spos) env) Q E s:=by
 rw[exec_Assign_Name_used _ _ _ _ hsw]
 refine wpAny_bind (wpAny_standAt (wpAny_bind ?_))
 show wpAny _ A (do let _<-comprehension (nestE elt iter iter₂ x x₂ px px₂ scope pos) scope env _ (newList []) false (eval iter env) (some (assign (.Name y py) env))) _ _ s
 refine wpAny_bind (wpAny_mono (wpAny_comprehension_free (use:=some (assign (.Name y py) env)) (Q:=fun _ s'=>Q .next s') rfl hs hclos hkind hnames
  (wpAny_mono h (fun xv s₁ h₁=>?_) fun _ _ e=>e)) (fun _ s' hq=>wpAny_pure (wpAny_pure hq)) fun _ _ e=>e)
 (refine Uc.ex9 h₁ fun h₀ m r b t u v n news=>Uc.xe2 fun cnt R=>Uc.an8 fun e1q hh F0 N0 hr hb hsz z9=>Uc.ah7 z9 fun hcnt hR hRn hRl T1 T2 fin=>?_;clear h₁ z9;subst e1q)
 have hsm:Builtin.Range.small 0 b 1=true:=rsmall (by omega) (by omega) (by omega) (by omega) (by omega) (by omega)
 have hn:Builtin.Range.rangeSize 0 b 1=(n:Int):=rsize1 hb
 refine wpAny_pyIter_range hr hsm ?_
 have walks:∀(I:Addr) (n:Nat),Walks prog w A I [I] [I] n (fun i v=>∃t,v=.int (i:Int) t) (fun i h=>RngIt I n i h):=fun I n=>by
  have W0:=range_walks (prog:=prog) (w:=w) (A:=A) (I:=I) hh 0 n
  simpa using W0
 have rng:∀{h h':Heap} {I:Addr} {n i:Nat},RngIt I n i h->(∀o,h.get? I=some o->h'.get? I=some o)->RngIt I n i h':=fun {h h' I n i} st e=>by
  have st':h.get? I=some _:=st
  exact e _ st'
 obtain⟨I,hI⟩:∃I,I=s₁.heap.objs.size:=⟨_,rfl⟩
 have facts:∀H0:Heap,(∃o,H0=s₁.heap.push o/\RngIt I n 0 H0)->wpAny (model prog w) A (newList []) (fun acc s₃=>wpAny (model prog w) A (newFunctionEnv scope env.globals cl [] env.qual none .none (some env)) (fun cenv s₄=>
   codeAny (model prog w) A (.compStart (nestE elt iter iter₂ x x₂ px px₂ scope pos) 0 (.ref I) acc { cenv with scope:=relabel scope env }) (compPost (model prog w) A E (some (assign (.Name y py) env)) (fun _ s'=>Q .next s') acc cenv.locals) s₄) E s₃) E { s₁ with heap:=H0 }:=by
  intro H0 w26q;(refine Uc.ex1 w26q fun oI0=>Uc.an2 fun hH0 hst=>?_;clear w26q)
  have F:Fr h₀ env.locals H0 m:=by rw[hH0];exact F0.push _
  have N:News h₀ env.locals H0 news:=by rw[hH0];exact fun p hp=>⟨Heap.get?_push_of_some _ (N0 p hp).1,(N0 p hp).2⟩
  have hIL:env.locals≠I:=by rw[hI];exact Nat.ne_of_lt F0.ns.lt
  have hI₀:h₀.get? I=none:=by rw[hI];exact next_is_new F0
  have off:∀p∈news,p.1≠I:=fun p hp=>by rw[hI];exact Nat.ne_of_lt (Heap.lt_size (N0 p hp).1)
  have hIlt:I<H0.objs.size:=by rw[hH0,Heap.size_push,hI];exact Nat.lt_succ_self _
  clear hH0 F0 N0
  have W:=walks I n
  refine wpAny_newObj_type (wpAny_newFunctionEnv hcell (by intro y hy;simp at hy) (fun h₁ hns₁ hsb₁=>?_) hkind)
  dsimp only at hns₁ hsb₁ ⊢
  generalize hH2:H0.push { cls:=.type "list",dict:=none,data:=.seq ([]:List Value).toArray }=H2 at hns₁ hsb₁ ⊢
  have hC:H2.objs.size=H0.objs.size+1:=by rw[<-hH2,Heap.size_push]
  have hDC:H0.objs.size≠H2.objs.size:=by rw[hC];exact Nat.ne_of_lt (Nat.lt_succ_self _)
  have below:∀b,b<H0.objs.size->b≠H2.objs.size/\b≠H0.objs.size:=fun b hb=>⟨by rw[hC];exact Nat.ne_of_lt (Nat.lt_succ_of_lt hb),Nat.ne_of_lt hb⟩
  have old:∀b o,H0.get? b=some o->h₁.get? b=some o:=fun b o e=>hsb₁.extBut b o (below b (Heap.lt_size e)).1 (Heap.get?_push_of_some _ (hH2▸Heap.get?_push_of_some _ e))
  have hacc:h₁.get? H0.objs.size=some (lst []):=hsb₁.extBut _ _ hDC (Heap.get?_push_of_some _ (hH2▸Heap.get?_push_size _ rfl))
  have hst₁:RngIt I n 0 h₁:=rng hst fun o e=>old I o e
  have fresh:∀a,H0.objs.size<=a->H0.get? a=none:=fun a ha=>by
   cases e:H0.get? a with
   |none=>rfl
   |some o'=>exact absurd (Heap.lt_size e) (Nat.not_lt.mpr ha)
  have fresh₀:∀a,H0.objs.size<=a->h₀.get? a=none:=fun a ha=>by
   cases e:h₀.get? a with
   |none=>rfl
   |some o'=>have:=F.keep a o' e;rw[fresh a ha] at this;cases this
  have hD₀:h₀.get? H0.objs.size=none:=fresh₀ _ (Nat.le_refl _)
  have hC₀:h₀.get? H2.objs.size=none:=fresh₀ _ (by rw[hC];exact Nat.le_succ _)
  have hLlt:env.locals<H0.objs.size:=F.ns.lt
  have hDL:H0.objs.size≠env.locals:=Ne.symm (below env.locals hLlt).2
  have hCL:H2.objs.size≠env.locals:=Ne.symm (below env.locals hLlt).1
  have hCI:I≠H2.objs.size:=(below I hIlt).1
  have hDI:I≠H0.objs.size:=(below I hIlt).2
  have off₀:Off3 I H2.objs.size H0.objs.size news:=Off3.of fun p hp=>⟨off p hp,(below _ (Heap.lt_size (N p hp).1)).1,(below _ (Heap.lt_size (N p hp).1)).2⟩
  have off3:=off₀.mem
  clear below fresh fresh₀ hC hIlt hLlt
  revert hns₁ hsb₁ hDC hacc hD₀ hC₀ hDL hCL hCI hDI off₀ off3
  generalize H0.objs.size=D
  generalize H2.objs.size=C
  revert D C
  refine Uc.idP ?_
  intro D C hns₁ hsb₁ hDC hacc hD₀ hC₀ hDL hCL hCI hDI off₀ off3
  have loop:∀s₃:Shared,s₃={ s₁ with heap:=h₁,toks:=s₁.toks+([]:List (Str×Value)).length }->
    codeAny (model prog w) A (.compLoop (nestE elt iter iter₂ x x₂ px px₂ scope pos) 0 (.ref I) (.ref D) (compEnvC scope cl C env))
     (compPost (model prog w) A E (some (assign (.Name y py) env)) (fun _ s'=>Q .next s') (.ref D) C) s₃:=by
   rintro s₃ rfl
   refine nest_loop0 (hs₂ _)
    (fun k s'=>∃h' tk i ys m',s'={ s₁ with heap:=h',toks:=tk }/\i<=n/\k=n+1-i/\RngIt I n i h'/\Fr h₀ env.locals h' m/\h'.Ns C m'/\News h₀ env.locals h' ((D,lst ys)::news)/\R i 0 ys) ?_ (n+1)
    (Uc.ei5 h₁ _ 0 ([]) _ ⟨rfl,Nat.zero_le _,rfl,hst₁,F.keeps old,hns₁,fun p hp=>?_,hR⟩)
   ·intro k s' w2q;(refine Uc.ex5 w2q fun h' tk i ys m'=>Uc.an8 fun e1q hi e2q hst' F' hn' N' R'=>?_;clear w2q;subst e1q;subst e2q)
    by_cases hlt:i<n
    ·refine W.item i _ _ _ hlt hst' fun v h₂ tk₂ hPv hst₂ hk₂=>?_
     obtain⟨tx,rfl⟩:=hPv
     refine wpAny_assign_Name (wpAny_storeName_local (lookup_relabel_local hx) (hn'.at' fun o e=>hk₂ _ o (by simpa using Ne.symm hCI) e) (fun h₃ hn₃ hs₃=>?_) (by simp[compEnvC,relabel,hkind]))
     have hst₃:RngIt I n (i+1) h₃:=rng hst₂ fun o e=>hs₃.extBut I o hCI e
     (refine Uc.ex1 (ns_obj hn₃) fun oC=>Uc.an2 fun heC hoC=>?_)
     have F₃:Fr h₀ env.locals h₃ m:=(fr_but F' hk₂ hIL hI₀).change hs₃ hCL hC₀
     have N₂:News h₀ env.locals h₂ ((D,lst ys)::news):=news_but N' hk₂ fun p hp=>by
      rcases List.mem_cons.mp hp with rfl|hp
      ·exact Ne.symm hDI
      ·exact(off3 p hp).1
     have N₃:News h₀ env.locals h₃ ((I,_)::(C,oC)::(D,lst ys)::news):=fun p hp=>by
      rcases List.mem_cons.mp hp with rfl|hp
      ·exact⟨hst₃,Ne.symm hIL,hI₀⟩
      ·rcases List.mem_cons.mp hp with rfl|hp
       ·exact⟨heC,hCL,hC₀⟩
       ·have z:=N₂ p hp
        refine⟨hs₃.extBut _ _ ?_ z.1,z.2⟩
        rcases List.mem_cons.mp hp with rfl|hp
        ·exact hDC
        ·exact(off3 p hp).2.1
     refine wpAny_mono (T1 s₁.heap i ys I _ C oC D _ h₃ _ tx _ hlt hoC (by simp) F₃ N₃ off₀ ⟨hCI,hDI,Ne.symm hDC⟩) (fun rv s₄ q=>?_) fun _ _ e=>e
     (refine Uc.ex6 q fun r₂ t₂ u₂ v₂ h₄ tk₄=>Uc.an5 fun e1q e2q hr₂ F₄ N₄=>?_;clear q;subst e1q;subst e2q)
     have hcn:=hcnt i hlt
     have hsm₂:Builtin.Range.small 0 ((cnt i:Nat):Int) 1=true:=rsmall (by omega) (by omega) (by omega) (by omega) (by omega) (by omega)
     have hn₂:Builtin.Range.rangeSize 0 ((cnt i:Nat):Int) 1=(cnt i:Int):=rsize1 rfl
     refine wpAny_pyIter_range hr₂ hsm₂ ?_
     obtain⟨J,hJ⟩:∃J,J=h₄.objs.size:=⟨_,rfl⟩
     rw[<-hJ]
     (try dsimp only)
     have zI:=(N₄ (I,_) List.mem_cons_self).1
     have zC:=(N₄ (C,oC) (List.mem_cons_of_mem _ List.mem_cons_self)).1
     have hIJ:I≠J:=by rw[hJ];exact Nat.ne_of_lt (Heap.lt_size zI)
     have hCJ:C≠J:=by rw[hJ];exact Nat.ne_of_lt (Heap.lt_size zC)
     have hDJ:D≠J:=by rw[hJ];exact Nat.ne_of_lt (Heap.lt_size (N₄ (D,lst ys) (List.mem_cons_of_mem _ (List.mem_cons_of_mem _ List.mem_cons_self))).1)
     have hLJ:env.locals≠J:=by rw[hJ];exact Nat.ne_of_lt F₄.ns.lt
     have hJ₀:h₀.get? J=none:=by rw[hJ];exact next_is_new F₄
     have offJ:∀p∈news,p.1≠J:=fun p hp=>by rw[hJ];exact Nat.ne_of_lt (Heap.lt_size (N₄ p (List.mem_cons_of_mem _ (List.mem_cons_of_mem _ (List.mem_cons_of_mem _ hp)))).1)
     have WJ:=walks J (cnt i)
     have keepJ:∀o b o',h₄.get? b=some o'->(h₄.push o).get? b=some o':=fun o b o' e=>Heap.get?_push_of_some _ e
     have inner:∀s₅:Shared,(∃h' tk,s₅={ s₁ with heap:=h',toks:=tk }/\RngIt J (cnt i) 0 h'/\(∀b o',h₄.get? b=some o'->h'.get? b=some o'))->
       codeAny (model prog w) A (.compLoop (nestE elt iter iter₂ x x₂ px px₂ scope pos) 1 (.ref J) (.ref D) (compEnvC scope cl C env))
        (fun r s'=>match r with| .ok _=>∃m₁,m₁<n+1-i/\(∃h' tk i ys m',s'={ s₁ with heap:=h',toks:=tk }/\i<=n/\m₁=n+1-i/\RngIt I n i h'/\Fr h₀ env.locals h' m/\h'.Ns C m'/\News h₀ env.locals h' ((D,lst ys)::news)/\R i 0 ys)| .error e=>cameBackBy (model prog w) A (compEnvC scope cl C env) (notedBy (model prog w) A (compEnvC scope cl C env) fun e s'=>compPost (model prog w) A E (some (assign (.Name y py) env)) (fun _ s'=>Q .next s') (.ref D) C (.error e) s') e s') s₅:=by
      intro s₅ w3q;(refine Uc.ex2 w3q fun h' tk=>Uc.an3 fun e1q hJ' hk'=>?_;clear w3q;subst e1q)
      refine nest_loop1 (fun k s'=>∃h' tk j ys m₂,s'={ s₁ with heap:=h',toks:=tk }/\j<=cnt i/\k=cnt i+1-j/\RngIt J (cnt i) j h'/\RngIt I n (i+1) h'/\Fr h₀ env.locals h' m/\h'.Ns C m₂/\m₂ x=some (.int (i:Int) tx)/\News h₀ env.locals h' ((D,lst ys)::news)/\R i j ys) ?_ (cnt i+1)
       (Uc.ei5 h' tk 0 ys _ ⟨rfl,Nat.zero_le _,rfl,hJ',(show RngIt I n (i+1) h' from hk' _ _ zI),F₄.keeps hk',(hoC.ns zC).at' fun o e=>hk' _ o e,by simp,fun p hp=>⟨hk' _ _ (N₄ p (List.mem_cons_of_mem _ (List.mem_cons_of_mem _ hp))).1,(N₄ p (List.mem_cons_of_mem _ (List.mem_cons_of_mem _ hp))).2⟩,R'⟩)
      intro k s' w4q;(refine Uc.ex5 w4q fun h' tk j ys m₂=>Uc.an10 fun e1q hj e2q hstJ hstI F' hn' hmx N' R'=>?_;clear w4q;subst e1q;subst e2q)
      by_cases hjl:j<cnt i
      ·refine WJ.item j _ _ _ hjl hstJ fun v h₅ tk₅ hPv hst₅ hk₅=>?_
       obtain⟨ty,rfl⟩:=hPv
       refine wpAny_assign_Name (wpAny_storeName_local (lookup_relabel_local hx₂) (hn'.at' fun o e=>hk₅ _ o (by simpa using hCJ) e) (fun h₆ hn₆ hs₆=>?_) (by simp[compEnvC,relabel,hkind]))
       have hst₆:RngIt J (cnt i) (j+1) h₆:=rng hst₅ fun o e=>hs₆.extBut J o (Ne.symm hCJ) e
       have hstI₆:RngIt I n (i+1) h₆:=rng hstI fun o e=>hs₆.extBut I o hCI (hk₅ I o (by simpa using hIJ) e)
       (refine Uc.ex1 (ns_obj hn₆) fun oC₆=>Uc.an2 fun heC₆ hoC₆=>?_)
       have F₆:Fr h₀ env.locals h₆ m:=(fr_but F' hk₅ hLJ hJ₀).change hs₆ hCL hC₀
       have N₅:News h₀ env.locals h₅ ((D,lst ys)::news):=news_but N' hk₅ fun p hp=>by
        rcases List.mem_cons.mp hp with rfl|hp
        ·exact hDJ
        ·exact offJ p hp
       have N₆:News h₀ env.locals h₆ ((I,_)::(C,oC₆)::(D,lst ys)::news):=fun p hp=>by
        rcases List.mem_cons.mp hp with rfl|hp
        ·exact⟨hstI₆,Ne.symm hIL,hI₀⟩
        ·rcases List.mem_cons.mp hp with rfl|hp
         ·exact⟨heC₆,hCL,hC₀⟩
         ·have z:=N₅ p hp
          refine⟨hs₆.extBut _ _ ?_ z.1,z.2⟩
          rcases List.mem_cons.mp hp with rfl|hp
          ·exact hDC
          ·exact(off3 p hp).2.1
       refine wpAny_mono (T2 s₁.heap i j ys I _ C oC₆ D _ h₆ _ tx ty _ hlt hjl R' hoC₆ (by simp[hxx,hmx]) (by simp) F₆ N₆ off₀ ⟨hCI,hDI,Ne.symm hDC⟩) (fun y' s₆ q=>?_) fun _ _ e=>e
       (refine Uc.ah2 q fun w27q R₇=>?_;clear q);obtain⟨tk₇,rfl⟩:=w27q
       have zD:=(N₆ (D,lst ys) (List.mem_cons_of_mem _ (List.mem_cons_of_mem _ List.mem_cons_self))).1
       refine append_at (hsz:=by show ys.toArray.size<=sizeLine;rw[List.size_toArray,sizeLine_eq];have:=hRl _ _ _ R';omega) zD fun h₇ hs₇ hD₇=>?_
       refine⟨cnt i+1-(j+1),Nat.sub_lt_sub_left (Nat.lt_succ_of_lt hjl) (Nat.lt_succ_self j),Uc.ei5 h₇ tk₇ (j+1) (ys++[y']) _ ⟨rfl,hjl,rfl,rng hst₆ fun o e=>hs₇.extBut _ _ (Ne.symm hDJ) e,rng hstI₆ fun o e=>hs₇.extBut _ _ hDI e,F₆.change hs₇ hDL hD₀,(hoC₆.ns heC₆).sameBut hs₇ (Ne.symm hDC),by simp[hxx,hmx],fun p hp=>?_,R₇⟩⟩
       rcases List.mem_cons.mp hp with rfl|hp
       ·exact⟨hD₇.trans (congrArg some (lst_snoc ys y')),hDL,hD₀⟩
       ·exact⟨hs₇.extBut _ _ (off3 p hp).2.2 (N₆ p (List.mem_cons_of_mem _ (List.mem_cons_of_mem _ (List.mem_cons_of_mem _ hp)))).1,(N₆ p (List.mem_cons_of_mem _ (List.mem_cons_of_mem _ (List.mem_cons_of_mem _ hp)))).2⟩
      ·obtain rfl:j=cnt i:=Nat.le_antisymm hj (Nat.not_lt.mp hjl)
       refine WJ.done _ _ _ hstJ fun h₅ tk₅ hk₅=>?_
       have N₈:News h₀ env.locals h₅ ((D,lst ys)::news):=news_but N' hk₅ fun p hp=>by
        rcases List.mem_cons.mp hp with rfl|hp
        ·exact hDJ
        ·exact offJ p hp
       exact⟨n+1-(i+1),Nat.sub_lt_sub_left (Nat.lt_succ_of_lt hlt) (Nat.lt_succ_self i),Uc.ei5 h₅ tk₅ (i+1) ys m₂ ⟨rfl,hlt,rfl,rng hstI fun o e=>hk₅ I o (by simpa using hIJ) e,fr_but F' hk₅ hLJ hJ₀,hn'.at' fun o e=>hk₅ _ o (by simpa using hCJ) e,N₈,hRn i ys hlt R'⟩⟩
     have go:∀s₅:Shared,(∃h' tk,s₅={ s₁ with heap:=h',toks:=tk }/\RngIt J (cnt i) 0 h'/\(∀b o',h₄.get? b=some o'->h'.get? b=some o'))->codeAny (model prog w) A (.compStart (nestE elt iter iter₂ x x₂ px px₂ scope pos) 1 (.ref J) (.ref D) (compEnvC scope cl C env)) _ s₅:=fun s₅ q=>nest_start1 (inner _ q) (WJ.self 0 _ _ _ (by obtain⟨h',tk,rfl,a,_⟩:=q;exact a) (inner _ q))
     exact go _ ⟨_,_,rfl,by show IsRangeIter _ _ _ _ _;rw[hn₂,hJ];simpa using Heap.get?_push_size _ rfl,keepJ _⟩
    ·obtain rfl:i=n:=Nat.le_antisymm hi (Nat.not_lt.mp hlt)
     refine W.done _ _ _ hst' fun h₂ tk₂ hk₂=>?_
     have F₂:=fr_but F' hk₂ hIL hI₀
     have N₂:News h₀ env.locals h₂ ((D,lst ys)::news):=news_but N' hk₂ fun p hp=>by
      rcases List.mem_cons.mp hp with rfl|hp
      ·exact Ne.symm hDI
      ·exact(off3 p hp).1
     have hn₂:h₂.Ns C m':=hn'.at' fun o e=>hk₂ _ o (by simpa using Ne.symm hCI) e
     show wpAny _ A (assign (.Name y py) env (.ref D)) _ _ _
     refine wpAny_assign_Name (wpAny_storeName_local hy F₂.ns (fun h₃ hn₃ hs₃=>?_) hp')
     have hL₀:h₀.get? env.locals=none:=Heap.get?_none_of_le F₂.above
     have F₃:Fr h₀ env.locals h₃ (fun z=>if z=y then some (.ref D) else m z):=⟨hn₃,fun b o e=>hs₃.extBut b o (fun q=>by rw[q,hL₀] at e;cases e) (F₂.keep b o e),F₂.above⟩
     refine⟨m',hn₂.sameBut hs₃ hCL,fun h'' hs''=>fin D h'' _ ys R' (F₃.change hs'' hCL hC₀) (fun p hp=>?_) off₀.one⟩
     have q:h₃.get? p.1=some p.2:=hs₃.extBut _ _ (N₂ p hp).2.1 (N₂ p hp).1
     refine⟨hs''.extBut _ _ ?_ q,(N₂ p hp).2⟩
     rcases List.mem_cons.mp hp with rfl|hp
     ·exact hDC
     ·exact(off3 p hp).2.1
   ·rcases List.mem_cons.mp hp with rfl|hp
    ·exact⟨hacc,hDL,hD₀⟩
    ·exact⟨old _ _ (N p hp).1,(N p hp).2⟩
  exact codeAny_compStart_list (loop _ rfl) (W.self 0 _ _ _ hst₁ (loop _ rfl))
 subst hI
 exact facts _ ⟨_,rfl,by show IsRangeIter _ _ _ _ _;rw[hn];simpa using Heap.get?_push_size _ rfl⟩
end
end Uc
end
section
namespace Uc
open PyProof.Rows.LCg
noncomputable def mkS (l:List Nat):Str:=⟨l.toArray⟩
theorem updF_front {c:Addr}{o:Obj}{l:Led}{g:Obj->Led}(U:UpdF c o l g):∀{front:Led},(∀p∈front,p.1≠c)->UpdF c o (front++l) (fun o'=>front++g o')
 | [],_=>U
 |p::front,h=>.tail (h p (.head _)) (updF_front U fun q hq=>h q (.tail _ hq))
set_option tactic.hygienic true in
theorem spell_len:∀(k:Nat) (x:List Nat) (r:Nat),(spell k x r).length<=x.length
 |0,_,_=>Nat.zero_le _
 |k+1,[],_=>Nat.zero_le _
 |k+1,c::t,r=>by
  rw[spell_eq]
  have a:=fun j=>spell_len k ((c::t).drop j) (r / 30)
  have b:=spell_len k t (r / 30)
  have len3:∀(j:Nat) (P:List Nat),(c::t).take (3-r%3)=P->P.length=j->j<=(c::t).length:=fun j P e hl=>by
   rw[<-hl, <-e,List.length_take];omega
  split
  ·rename_i e
   have:=len3 3 _ e rfl
   have:=a 3
   rw[List.length_drop] at this
   simp only[List.length_cons] at*
   omega
  split
  ·rename_i e
   have:=len3 2 _ e rfl
   have:=a 2
   rw[List.length_drop] at this
   simp only[List.length_cons] at*
   omega
  split
  ·rename_i e
   have:=len3 2 _ e rfl
   have:=a 2
   rw[List.length_drop] at this
   simp only[List.length_cons] at*
   omega
  ·simp only[List.length_cons] at*
   omega
theorem raw_le (x:List Nat)(n:Nat):(rawOf x n).length<=x.length+1:=by
 unfold rawOf typedOf
 simp only[List.length_append,List.length_cons,List.length_take,List.length_drop]
 have:=spell_len x.length x n
 generalize n / 27%((spell x.length x n).length+1)=k at*
 generalize (spell x.length x n).length=m at*
 clear n
 omega
theorem esc_len:∀l:List Nat,(l.map fun c=>[92,c]).flatten.length=2*l.length
 | []=>rfl
 |c::l=>by
  have:=esc_len l
  simp only[List.map_cons,List.flatten_cons,List.length_append,List.length_cons,List.length_nil] at*
  omega
theorem join_flat (ls:List (List Nat)):Txt.join (ofString "") (ls.map mkS)=mkS ls.flatten:=by
 rw[show Txt.join (ofString "") (ls.map mkS)=Str.join (ofString "") (ls.map mkS) from eq_of_beq (join_plain_closes _ _)]
 induction ls with
 |nil=>rfl
 |cons c l ih=>
  cases l with
  |nil=>
   show mkS c=mkS (c++[])
   rw[List.append_nil]
  |cons d l=>
   show mkS c++ofString ""++Str.join (ofString "") ((d::l).map mkS)=_
   rw[ih,show ofString ""=(⟨([]:List Nat).toArray⟩:Str) from by rfl]
   unfold mkS
   rw[app2,app2,List.append_nil, <-List.flatten_cons]
theorem mkS_len (l:List Nat):(mkS l).length=l.length:=by show l.toArray.size=_;simp
theorem spelled_le (x:List Nat)(n:Nat):(spelled x n).length<=2*x.length+5:=by
 unfold spelled quoted
 have:=raw_le x n
 rw[List.length_append]
 split
 ·simp only[List.length_cons,List.length_append,List.length_nil];omega
 split
 ·rw[esc_len];simp only[List.length_cons,List.length_nil];omega
 ·simp only[List.length_cons,List.length_nil];omega
end Uc
end
section
namespace Uc
open PyProof.Rows.LCg
section
variable {prog:Program}{w:World}{A:Around}{E:Value->Shared->Prop}{s:Shared}{h₀:Heap}{L:Addr}{m:Str->Option Value}{env:Env}
theorem fr_buts {h h':Heap}{wr:List Addr}(F:Fr h₀ L h m)(hk:∀b o,b ∉ wr->h.get? b=some o->h'.get? b=some o)(hL:L ∉ wr)(hI:∀b∈wr,h₀.get? b=none):Fr h₀ L h' m:=
 ⟨F.ns.at' fun o e=>hk L o hL e,fun b o e=>hk b o (fun hm=>by rw[hI b hm] at e;cases e) (F.keep b o e),F.above⟩
theorem news_buts {h h':Heap}{wr:List Addr}{news:Led}(N:News h₀ L h news)(hk:∀b o,b ∉ wr->h.get? b=some o->h'.get? b=some o)(off:∀p∈news,p.1 ∉ wr):News h₀ L h' news:=
 fun p hp=>⟨hk _ _ (off p hp) (N p hp).1,(N p hp).2⟩
noncomputable def TurnsZ (prog:Program)(w:World)(A:Around)(h₀:Heap)(L:Addr)(m:Str->Option Value)(env:Env)(elt:Expr)(x x₂:Str)(scope:Scope)(cl:List (Str×Addr))(xs zs:List Value)(news:Led)(R:Nat->List Value->Prop)(s:Shared):Prop:=
 ∀i vx vz ys I oI C oC D m₂ h tk (E':Value->Shared->Prop),xs[i]? =some vx->zs[i]? =some vz->R i ys->NsObj oC m₂->m₂ x=some vx->m₂ x₂=some vz->Fr h₀ L h m->News h₀ L h ((I,oI)::(C,oC)::(D,lst ys)::news)->Off3 I C D news->((@Ne Nat I C)/\(@Ne Nat I D)/\(@Ne Nat C D))->
  wpAny (model prog w) A (eval elt (compEnvC scope cl C env)) (fun y s₄=>(∃tk',s₄={ s with heap:=h,toks:=tk' })/\R (i+1) (ys++[y])) E' { s with heap:=h,toks:=tk }
noncomputable abbrev ZipSt (z TI TO i1 i2 l1 l2:Addr)(xs zs:List Value)(i:Nat)(h:Heap):Prop:=IsZip h z TI TO .none/\IsPair h TI (.ref i1) (.ref i2)/\(∃a b,IsPair h TO a b)/\h.IsListIter i1 l1 i/\h.IsListIter i2 l2 i/\h.IsList l1 xs.toArray/\h.IsList l2 zs.toArray
noncomputable def CompZA (prog:Program)(w:World)(A:Around)(env:Env)(elt:Expr)(x x₂:Str)(scope:Scope)(cl:List (Str×Addr))(y:Str)(Q:Flow->Shared->Prop)(xv:Value)(s₁:Shared):Prop:=
 ∃(h₀:Heap) (m:Str->Option Value) (z TI TO i1 i2 l1 l2:Addr) (xs zs:List Value) (news:Led) (R:Nat->List Value->Prop),xv=.ref z/\A.handled=none/\Fr h₀ env.locals s₁.heap m/\News h₀ env.locals s₁.heap news/\ZipSt z TI TO i1 i2 l1 l2 xs zs 0 s₁.heap/\ZipApart z TI TO i1 i2 l1 l2/\
  (∀b∈[z,TO,i1,i2],h₀.get? b=none/\b≠env.locals/\∀p∈news,p.1≠b)/\xs.length<=10000/\R 0 []/\
  (∀g,TurnsZ prog w A h₀ env.locals m env elt x x₂ scope cl xs zs news R { s₁ with heap:=g })/\
  ∀D h tk ys,R (min xs.length zs.length) ys->Fr h₀ env.locals h (fun q=>if q=y then some (.ref D) else m q)->News h₀ env.locals h ((D,lst ys)::news)->Off1 D news->Q .next { s₁ with heap:=h,toks:=tk }
theorem zipK {l1 l2:Addr}{o1 o2:Obj}{xs zs:List Value}{n1 n2:Nat}{news:Led}{Q:Value->Shared->Prop}(F:Fr h₀ L s.heap m)(N:News h₀ L s.heap news)(m1:(l1,o1)∈news)(m2:(l2,o2)∈news)(c1:o1.cls=.type "list")(d1:o1.data=.seq xs.toArray n1)(c2:o2.cls=.type "list")(d2:o2.data=.seq zs.toArray n2)
  (h:∀h' z TI TO i1 i2,Fr h₀ L h' m->News h₀ L h' news->ZipSt z TI TO i1 i2 l1 l2 xs zs 0 h'->ZipApart z TI TO i1 i2 l1 l2->(∀b∈[z,TO,i1,i2],h₀.get? b=none/\b≠L/\∀p∈news,p.1≠b)->Q (.ref z) { s with heap:=h' }):
  wpAny (model prog w) A (call (.type "zip") [.ref l1,.ref l2]) Q E s:=by
 have hl1:s.heap.IsList l1 xs.toArray:=⟨o1,(N _ m1).1,c1,n1,d1⟩
 have hl2:s.heap.IsList l2 zs.toArray:=⟨o2,(N _ m2).1,c2,n2,d2⟩
 have hlt1:l1<s.heap.objs.size:=Heap.lt_size (N _ m1).1
 have hlt2:l2<s.heap.objs.size:=Heap.lt_size (N _ m2).1
 refine call_zip_2 hl1 hl2 fun h' hz hTI hTO hi1 hi2 hsz hk=>?_
 refine h h' _ _ _ _ _ (F.keeps hk) (N.grown hk) ⟨hz,hTI,⟨_,_,hTO⟩,hi1,hi2,hl1.at fun o e=>hk l1 o e,hl2.at fun o e=>hk l2 o e⟩ (ktu_apart _ _ _ hlt1 hlt2) fun b hb=>?_
 have hLs:L<s.heap.objs.size:=F.ns.lt
 have key:∀k:Nat,h₀.get? (s.heap.objs.size+k)=none/\(s.heap.objs.size+k:Nat)≠L/\∀p∈news,p.1≠s.heap.objs.size+k:=fun k=>⟨ktu_new F (Nat.le_add_right _ _),(ktu_ne k hLs).symm,fun p hp=>ktu_ne k (Heap.lt_size (N p hp).1)⟩
 simp only[List.mem_cons,List.not_mem_nil,or_false] at hb
 rcases hb with rfl|rfl|rfl|rfl
 ·exact key 4
 ·exact key 3
 ·exact key 0
 ·exact key 1
theorem comp_zipA {elt iter:Expr}{x x₂ y:Str}{px px₂ tp py:Pos}{kt}{scope:Scope}{cl:List (Str×Addr)}{pos spos:Pos}{Q:Flow->Shared->Prop}
  (hsw:swapsWith (.ListComp elt [⟨.Tuple [.Name x px,.Name x₂ px₂] kt tp,iter,[],0⟩] scope pos) (some (.Name y py)) spos.line env=pure true)
  (hclos:closureFor scope env=pure cl) (hcell:∀y∈scope.names,y.2≠.cell) (hkind:scope.kind=.function)
  (hnames:∀y∈scope.names,y.2=.local->scope.names.lookup y.1=some .local) (hx:scope.names.lookup x=some .local) (hx₂:scope.names.lookup x₂=some .local) (hxx:x≠x₂)
  (hy:env.kindOf y=some .local) (hp':(env.scope.kind==.class||(env.scope.kind==.module&&env.locals !=env.globals))=false)
  (h:wpAny (model prog w) A (eval iter env) (CompZA prog w A env elt x x₂ scope cl y Q) E s)
  (hs:∀x,foldedSetIterable iter env x=pure x):
  wpAny (model prog w) A (exec (.Assign [.Name y py] (.ListComp elt [⟨.Tuple [.Name x px,.Name x₂ px₂] kt tp,iter,[],0⟩] scope pos) spos) env) Q E s:=by
 rw[exec_Assign_Name_used _ _ _ _ hsw]
 refine wpAny_bind (wpAny_standAt (wpAny_bind ?_))
 show wpAny _ A (do let _<-comprehension (.ListComp elt [⟨.Tuple [.Name x px,.Name x₂ px₂] kt tp,iter,[],0⟩] scope pos) scope env _ (newList []) false (eval iter env) (some (assign (.Name y py) env))) _ _ s
 refine wpAny_bind (wpAny_mono (wpAny_comprehension_free (use:=some (assign (.Name y py) env)) (Q:=fun _ s'=>Q .next s') rfl hs hclos hkind hnames
  (wpAny_mono h (fun xv s₁ h₁=>?_) fun _ _ e=>e)) (fun _ s' hq=>wpAny_pure (wpAny_pure hq)) fun _ _ e=>e)
 (refine Uc.ex9 h₁ fun h₀ m z TI TO i1 i2 l1 l2=>Uc.xe4 fun xs zs news R=>Uc.an11 fun e1q hh F N hst ZA hwr hsz hR T fin=>?_;clear h₁;subst e1q)
 refine wpAny_pyIter_zip hst.1 ?_
 have W:=WalksT.zip2 (prog:=prog) (w:=w) hh z TI TO i1 i2 l1 l2 ZA xs.toArray zs.toArray
 have hmin:min xs.toArray.size zs.toArray.size=min xs.length zs.length:=by simp
 rw[hmin] at W
 obtain⟨n,hn⟩:∃n,n=min xs.length zs.length:=⟨_,rfl⟩
 rw[<-hn] at W fin
 have hnx:n<=10000:=by omega
 have hfp:∀b∈[z,TI,TO,i1,i2,l1,l2],b<s₁.heap.objs.size:=by
  (refine Uc.ah7 hst fun a1 a2 w5q w6q w7q w8q w9q=>?_;clear hst);(refine Uc.ex2 w5q fun u v a3=>?_;clear w5q);(refine Uc.ex1 w6q fun _=>Uc.an2 fun a4 _=>?_;clear w6q);(refine Uc.ex1 w7q fun _=>Uc.an2 fun a5 _=>?_;clear w7q);(refine Uc.ex1 w8q fun _=>Uc.an2 fun a6 _=>?_;clear w8q);(refine Uc.ex1 w9q fun _=>Uc.an2 fun a7 _=>?_;clear w9q)
  intro b hb
  simp only[List.mem_cons,List.not_mem_nil,or_false] at hb
  rcases hb with rfl|rfl|rfl|rfl|rfl|rfl|rfl
  ·exact Heap.lt_size a1
  ·exact Heap.lt_size a2
  ·exact Heap.lt_size a3
  ·exact Heap.lt_size a4
  ·exact Heap.lt_size a5
  ·exact Heap.lt_size a6
  ·exact Heap.lt_size a7
 have hLw:env.locals ∉ [z,TO,i1,i2]:=fun hm=>(hwr _ hm).2.1 rfl
 have hw₀:∀b∈[z,TO,i1,i2],h₀.get? b=none:=fun b hb=>(hwr b hb).1
 have hnw:∀p∈news,p.1 ∉ [z,TO,i1,i2]:=fun p hp hm=>(hwr _ hm).2.2 p hp rfl
 have hsub:∀b∈[z,TO,i1,i2],b<s₁.heap.objs.size:=fun b hb=>hfp b (by
  simp only[List.mem_cons,List.not_mem_nil,or_false] at hb ⊢
  rcases hb with h|h|h|h<;>simp[h])
 obtain⟨s₂,hs₂⟩:∃q,q=s₁:=⟨_,rfl⟩
 refine wpAny_newObj_type (wpAny_newFunctionEnv hcell (by intro y hy;simp at hy) (fun h₁ hns₁ hsb₁=>?_) hkind)
 dsimp only at hns₁ hsb₁ ⊢
 generalize hH2:s₁.heap.push { cls:=.type "list",dict:=none,data:=.seq ([]:List Value).toArray }=H2 at hns₁ hsb₁ ⊢
 have hC:H2.objs.size=s₁.heap.objs.size+1:=by rw[<-hH2,Heap.size_push]
 have hDC:s₁.heap.objs.size≠H2.objs.size:=by rw[hC];exact Nat.ne_of_lt (Nat.lt_succ_self _)
 have below:∀b,b<s₁.heap.objs.size->b≠H2.objs.size/\b≠s₁.heap.objs.size:=fun b hb=>⟨by rw[hC];exact Nat.ne_of_lt (Nat.lt_succ_of_lt hb),Nat.ne_of_lt hb⟩
 have old:∀b o,s₁.heap.get? b=some o->h₁.get? b=some o:=fun b o e=>hsb₁.extBut b o (below b (Heap.lt_size e)).1 (Heap.get?_push_of_some _ (hH2▸Heap.get?_push_of_some _ e))
 have hacc:h₁.get? s₁.heap.objs.size=some (lst []):=hsb₁.extBut _ _ hDC (Heap.get?_push_of_some _ (hH2▸Heap.get?_push_size _ rfl))
 have hst₁:=W.frame _ _ _ hst fun b _ o e=>old b o e
 have fresh:∀a,s₁.heap.objs.size<=a->s₁.heap.get? a=none:=fun a ha=>by
  cases e:s₁.heap.get? a with
  |none=>rfl
  |some o'=>exact absurd (Heap.lt_size e) (Nat.not_lt.mpr ha)
 have fresh₀:∀a,s₁.heap.objs.size<=a->h₀.get? a=none:=fun a ha=>by
  cases e:h₀.get? a with
  |none=>rfl
  |some o'=>have:=F.keep a o' e;rw[fresh a ha] at this;cases this
 have hD₀:h₀.get? s₁.heap.objs.size=none:=fresh₀ _ (Nat.le_refl _)
 have hC₀:h₀.get? H2.objs.size=none:=fresh₀ _ (by rw[hC];exact Nat.le_succ _)
 have hLlt:env.locals<s₁.heap.objs.size:=F.ns.lt
 have hDL:s₁.heap.objs.size≠env.locals:=Ne.symm (below env.locals hLlt).2
 have hCL:H2.objs.size≠env.locals:=Ne.symm (below env.locals hLlt).1
 have hDw:s₁.heap.objs.size ∉ [z,TO,i1,i2]:=fun hm=>Nat.lt_irrefl _ (hsub _ hm)
 have hCw:H2.objs.size ∉ [z,TO,i1,i2]:=fun hm=>by have:=hsub _ hm;rw[hC] at this;exact Nat.lt_irrefl _ (Nat.lt_of_succ_lt this)
 have hCz:z≠H2.objs.size:=(below z (hsub z (.head _))).1
 have hDz:z≠s₁.heap.objs.size:=(below z (hsub z (.head _))).2
 have off₀:Off3 z H2.objs.size s₁.heap.objs.size news:=Off3.of fun p hp=>⟨(hwr z (.head _)).2.2 p hp,(below _ (Heap.lt_size (N p hp).1)).1,(below _ (Heap.lt_size (N p hp).1)).2⟩
 have off3:=off₀.mem
 have loop:∀s₃:Shared,s₃={ s₁ with heap:=h₁,toks:=s₁.toks+([]:List (Str×Value)).length }->
   codeAny (model prog w) A (.compLoop (.ListComp elt [⟨.Tuple [.Name x px,.Name x₂ px₂] kt tp,iter,[],0⟩] scope pos) 0 (.ref z) (.ref s₁.heap.objs.size) (compEnvC scope cl H2.objs.size env))
    (compPost (model prog w) A E (some (assign (.Name y py) env)) (fun _ s'=>Q .next s') (.ref s₁.heap.objs.size) H2.objs.size) s₃:=by
  rintro s₃ rfl
  refine PyProof.Rows.LCp.codeAny_compLoop_pair
   (fun k s'=>∃h' tk i ys m',s'={ s₁ with heap:=h',toks:=tk }/\i<=n/\k=n+1-i/\ys.length=i/\ZipSt z TI TO i1 i2 l1 l2 xs zs i h'/\Fr h₀ env.locals h' m/\h'.Ns H2.objs.size m'/\News h₀ env.locals h' ((s₁.heap.objs.size,lst ys)::news)/\R i ys) ?_ (n+1)
   (Uc.ei5 h₁ _ 0 ([]) _ ⟨rfl,Nat.zero_le _,rfl,rfl,hst₁,F.keeps old,hns₁,fun p hp=>?_,hR⟩)
  ·intro k s' w10q;(refine Uc.ex5 w10q fun h' tk i ys m'=>Uc.an9 fun e1q hi e2q hyl hst' F' hn' N' R'=>?_;clear w10q;subst e1q;subst e2q)
   by_cases hlt:i<n
   ·refine W.item i _ _ _ hlt hst' fun Tt vals h₂ tk₂ hPv _ hTt hMid hk₂=>?_
    (refine Uc.ex2 hPv fun vx vz=>Uc.an3 fun ex ez e1q=>?_;clear hPv;subst e1q)
    have hTw:=W.apart _ _ _ hMid
    have N₂:News h₀ env.locals h₂ ((s₁.heap.objs.size,lst ys)::news):=news_buts N' hk₂ fun p hp=>by
     rcases List.mem_cons.mp hp with rfl|hp
     ·exact hDw
     ·exact hnw p hp
    refine W.go _ _ _ _ _ _ _ _ hMid fun h₄ hst₄ hk₄=>?_
    have N₄:News h₀ env.locals h₄ ((s₁.heap.objs.size,lst ys)::news):=news_buts N₂ hk₄ fun p hp=>by
     rcases List.mem_cons.mp hp with rfl|hp
     ·exact hDw
     ·exact hnw p hp
    have F₄:=fr_buts (fr_buts F' hk₂ hLw hw₀) hk₄ hLw hw₀
    have ht:IsTup h₄ Tt #[vx,vz]:=by
     (refine Uc.ex1 hTt fun o=>Uc.an2 fun e1 e2=>?_;clear hTt)
     exact⟨o,hk₄ _ _ hTw e1,e2⟩
    refine assign_Tuple_tuple hh ht rfl rfl fun h₅ he=>?_
    have he':∀b o,h₄.get? b=some o->h₅.get? b=some o:=fun b o e=>he b o (Nat.ne_of_lt (Heap.lt_size e)) e
    refine assignInOrder_cons (wpAny_assign_Name (wpAny_storeName_local (lookup_relabel_local hx) (((hn'.at' fun o e=>hk₂ _ o hCw e).at' fun o e=>hk₄ _ o hCw e).at' fun o e=>he' _ o e) (fun h₆ hn₆ hs₆=>?_) (by simp[compEnvC,relabel,hkind])))
    refine assignInOrder_cons (wpAny_assign_Name (wpAny_storeName_local (lookup_relabel_local hx₂) hn₆ (fun h₃ hn₃ hs₃=>?_) (by simp[compEnvC,relabel,hkind])))
    refine assignInOrder_nil ?_
    have old3:∀b o,b≠H2.objs.size->h₄.get? b=some o->h₃.get? b=some o:=fun b o hb e=>hs₃.extBut b o hb (hs₆.extBut b o hb (he' b o e))
    have hst₃:ZipSt z TI TO i1 i2 l1 l2 xs zs (i+1) h₃:=W.frame _ _ _ hst₄ fun b hb o e=>old3 b o (below b (hfp b hb)).1 e
    (refine Uc.ex1 (ns_obj hn₃) fun oC=>Uc.an2 fun heC hoC=>?_)
    have F₃:Fr h₀ env.locals h₃ m:=((F₄.keeps he').change hs₆ hCL hC₀).change hs₃ hCL hC₀
    have N₃:News h₀ env.locals h₃ ((z,_)::(H2.objs.size,oC)::(s₁.heap.objs.size,lst ys)::news):=fun p hp=>by
     rcases List.mem_cons.mp hp with rfl|hp
     ·exact⟨hst₃.1,(hwr z (.head _)).2.1,(hwr z (.head _)).1⟩
     ·rcases List.mem_cons.mp hp with rfl|hp
      ·exact⟨heC,hCL,hC₀⟩
      ·have q:=N₄ p hp
       refine⟨old3 _ _ ?_ q.1,q.2⟩
       rcases List.mem_cons.mp hp with rfl|hp
       ·exact hDC
       ·exact(off3 p hp).2.1
    refine wpAny_mono (T s₁.heap i vx vz ys z _ H2.objs.size oC s₁.heap.objs.size _ h₃ _ _ (by simpa using ex) (by simpa using ez) R' hoC (by simp[hxx]) (by simp) F₃ N₃ off₀ ⟨hCz,hDz,Ne.symm hDC⟩) (fun y' s₄ h₄'=>?_) fun _ _ e=>e
    (refine Uc.ah2 h₄' fun w28q R₅=>?_;clear h₄');obtain⟨tk₅,rfl⟩:=w28q
    have zD:=(N₃ (s₁.heap.objs.size,lst ys) (List.mem_cons_of_mem _ (List.mem_cons_of_mem _ List.mem_cons_self))).1
    have N₃':News h₀ env.locals h₃ news:=fun p hp=>N₃ p (List.mem_cons_of_mem _ (List.mem_cons_of_mem _ (List.mem_cons_of_mem _ hp)))
    refine append_at (hsz:=by show ys.toArray.size<=sizeLine;rw[List.size_toArray,hyl,sizeLine_eq];omega) zD fun h₇ hs₇ hD₇=>?_
    refine⟨n+1-(i+1),Nat.sub_lt_sub_left (Nat.lt_succ_of_lt hlt) (Nat.lt_succ_self i),Uc.ei5 h₇ tk₅ (i+1) (ys++[y']) _ ⟨rfl,hlt,rfl,by rw[List.length_append,List.length_singleton,hyl],W.frame _ _ _ hst₃ fun b hb o e=>hs₇.extBut b o (below b (hfp b hb)).2 e,F₃.change hs₇ hDL hD₀,(hoC.ns heC).sameBut hs₇ (Ne.symm hDC),fun p hp=>?_,R₅⟩⟩
    rcases List.mem_cons.mp hp with rfl|hp
    ·exact⟨hD₇.trans (congrArg some (lst_snoc ys y')),hDL,hD₀⟩
    ·exact⟨hs₇.extBut _ _ (off3 p hp).2.2 (N₃' p hp).1,(N₃' p hp).2⟩
   ·obtain rfl:i=n:=Nat.le_antisymm hi (Nat.not_lt.mp hlt)
    refine W.done _ _ _ hst' fun h₂ tk₂ hk₂=>?_
    have F₂:=fr_buts F' hk₂ hLw hw₀
    have N₂:News h₀ env.locals h₂ ((s₁.heap.objs.size,lst ys)::news):=news_buts N' hk₂ fun p hp=>by
     rcases List.mem_cons.mp hp with rfl|hp
     ·exact hDw
     ·exact hnw p hp
    have hn₂:h₂.Ns H2.objs.size m':=hn'.at' fun o e=>hk₂ _ o hCw e
    show wpAny _ A (assign (.Name y py) env (.ref s₁.heap.objs.size)) _ _ _
    refine wpAny_assign_Name (wpAny_storeName_local hy F₂.ns (fun h₃ hn₃ hs₃=>?_) hp')
    have hL₀:h₀.get? env.locals=none:=Heap.get?_none_of_le F₂.above
    have F₃:Fr h₀ env.locals h₃ (fun z=>if z=y then some (.ref s₁.heap.objs.size) else m z):=⟨hn₃,fun b o e=>hs₃.extBut b o (fun q=>by rw[q,hL₀] at e;cases e) (F₂.keep b o e),F₂.above⟩
    refine⟨m',hn₂.sameBut hs₃ hCL,fun h'' hs''=>fin s₁.heap.objs.size h'' _ ys R' (F₃.change hs'' hCL hC₀) (fun p hp=>?_) off₀.one⟩
    have q:h₃.get? p.1=some p.2:=hs₃.extBut _ _ (N₂ p hp).2.1 (N₂ p hp).1
    refine⟨hs''.extBut _ _ ?_ q,(N₂ p hp).2⟩
    rcases List.mem_cons.mp hp with rfl|hp
    ·exact hDC
    ·exact(off3 p hp).2.1
  ·rcases List.mem_cons.mp hp with rfl|hp
   ·exact⟨hacc,hDL,hD₀⟩
   ·exact⟨old _ _ (N p hp).1,(N p hp).2⟩
 exact codeAny_compStart_list (loop _ rfl) (W.self 0 _ _ _ hst₁ (loop _ rfl))
end
end Uc
end
section
namespace Uc
open PyProof.Rows.LCg
section
variable {prog:Program}{w:World}{A:Around}{E:Value->Shared->Prop}{Q:Flow->Shared->Prop}{s:Shared}{h₀:Heap}{x:Str}{body:List Stmt}
noncomputable def TurnF (h₀:Heap)(L:Addr){σ:Type}(led:σ->Led)(ps:σ->Nms)(R:σ->Prop)(c I:Addr)(o:Obj)(s:Shared)(Q:Flow->Shared->Prop)(f:Flow)(s':Shared):Prop:=match f with
 | .ret v=>Q (.ret v) s'
 | .brk=>Q .next s'
 |_=>∃c' m' h' tk' oc v,s'={ s with heap:=h',toks:=tk' }/\Fr h₀ L h' m'/\News h₀ L h' ((c,oc)::(I,o)::led c')/\oc.data=.cell v/\(∀p∈led c',p.1≠c/\p.1≠I)/\Has m' (ps c')/\R c'
theorem TurnF.next {L:Addr}{σ:Type}{led:σ->Led}{ps:σ->Nms}{R:σ->Prop}{c I:Addr}{o oc:Obj}{v:Option Value}{s:Shared}{m':Str->Option Value}{h':Heap}{tk':Nat}{all:Led}(c':σ)(F:Fr h₀ L h' m')(N:News h₀ L h' all)(hs:∀p∈(c,oc)::(I,o)::led c',p∈all)(hd:oc.data=.cell v)
  (hn:∀p∈led c',p.1≠c/\p.1≠I) (hk:Has m' (ps c')) (hp:R c'):TurnF h₀ L led ps R c I o s Q .next { s with heap:=h',toks:=tk' }:=Uc.ei6 c' m' h' tk' oc v ⟨rfl,F,News.sub N hs,hd,hn,hk,hp⟩
noncomputable def ForAt (prog:Program)(w:World)(A:Around)(h₀:Heap)(env:Env)(L c:Addr)(body:List Stmt)(Q:Flow->Shared->Prop)(E:Value->Shared->Prop){σ:Type}(led:σ->Led)(ps:σ->Nms)(R:Nat->σ->Prop)(n:Nat)(a₀ b₀:Int)(xv:Value)(s₁:Shared):Prop:=
 ∃(r:Addr) (t u v:Tok) (m₀:Str->Option Value) (c₀:σ) (oc:Obj) (v₀:Option Value),xv=.ref r/\IsRange s₁.heap r a₀ b₀ 1 t u v/\Builtin.Range.small a₀ b₀ 1=true/\Builtin.Range.rangeSize a₀ b₀ 1=(n:Int)/\
   Fr h₀ L s₁.heap m₀/\News h₀ L s₁.heap ((c,oc)::led c₀)/\oc.data=.cell v₀/\(∀p∈led c₀,p.1≠c)/\Has m₀ (ps c₀)/\R 0 c₀/\
   (∀i t (c':σ) (u:Str->Option Value) h tk I o oc,i<n->R i c'->(∀p∈led c',p.1≠c/\p.1≠I)->c≠I->oc.data=.cell (some (.int (a₀+(i:Int)) t))->Fr h₀ L h (fm u (ps c'))->News h₀ L h ((c,oc)::(I,o)::led c')->
    wpAny (model prog w) A (execs body env) (TurnF h₀ L led ps (R (i+1)) c I o { s₁ with heap:=h,toks:=tk } Q) E { s₁ with heap:=h,toks:=tk })/\
   (∀c' u h tk oc v,R n c'->oc.data=.cell v->Fr h₀ L h (fm u (ps c'))->News h₀ L h ((c,oc)::led c')->(∀p∈led c',p.1≠c)->Q .next { s₁ with heap:=h,toks:=tk })
theorem for_cell {σ:Type}{cn:Str}{cs:Scope}{L a c:Addr}{ccd:Value}{cl:List (Str×Addr)}{px pos:Pos}{iter:Expr}(led:σ->Led)(ps:σ->Nms)(R:Nat->σ->Prop)(n:Nat)(a₀ b₀:Int)
  (hc:cl.lookup x=some c) (hk:cs.kind=.function) (hx:(envX cn cs L a ccd cl).kindOf x=some .cell) (hh:A.handled=none)
  (h:wpAny (model prog w) A (eval iter (envX cn cs L a ccd cl)) (ForAt prog w A h₀ (envX cn cs L a ccd cl) L c body Q E led ps R n a₀ b₀) E s)
  (hs:∀x,foldedSetIterable iter (envX cn cs L a ccd cl) x=pure x)
  (hE:PassesOwn (model prog w) A (envX cn cs L a ccd cl) E):
  wpAny (model prog w) A (exec (.For (.Name x px) iter body [] pos) (envX cn cs L a ccd cl)) Q E s:=by
 refine wpAny_For (wpAny_mono h (fun xv s₁ h₁=>?_) fun _ _ e=>e) hs
 (refine Uc.ex8 h₁ fun r t u v m₀ c₀ oc v₀=>Uc.an12 fun e1q hr hsm hn F N hd hne hHas hR turn done=>?_;clear h₁;subst e1q)
 refine wpAny_pyIter_range hr hsm ?_
 have W:∀I:Addr,Walks prog w A I [I] [I] n (fun i v=>∃t,v=.int (a₀+(i:Int)) t) (fun i h=>IsRangeIter h I (a₀+(i:Nat)*1) ((n:Int)-(i:Nat)) 1):=fun I=>range_walks (prog:=prog) (w:=w) (A:=A) (I:=I) hh a₀ n
 have main:∀(I:Addr) (s₂:Shared),(∃h' tk,s₂={ s₁ with heap:=h',toks:=tk }/\IsRangeIter h' I (a₀+((0:Nat):Int)*1) ((n:Int)-((0:Nat):Int)) 1/\Fr h₀ L h' m₀/\News h₀ L h' ((c,oc)::led c₀))->h₀.get? I=none->I≠L->(∀p∈(c,oc)::led c₀,p.1≠I)->
   codeAny (model prog w) A (.forLoop (.Name x px) (.ref I) body [] (envX cn cs L a ccd cl)) (fun r s'=>match r with| .ok f=>Q f s'| .error e=>cameBackBy (model prog w) A (envX cn cs L a ccd cl) E e s') s₂:=by
  intro I s₂ w11q hI₀ hIL hIn;(refine Uc.ex2 w11q fun h₁ tk₁=>Uc.an4 fun e1q st₁ F₁ N₁=>?_;clear w11q;subst e1q)
  have hcI:c≠I:=hIn (c,oc) (.head _)
  refine codeAny_forLoop (R:=fun r s'=>match r with| .ok f=>Q f s'| .error e=>cameBackBy (model prog w) A (envX cn cs L a ccd cl) E e s')
   (fun k s'=>∃h' tk i c' m' oc v,s'={ s₁ with heap:=h',toks:=tk }/\i<=n/\k=n+1-i/\IsRangeIter h' I (a₀+(i:Nat)*1) ((n:Int)-(i:Nat)) 1/\Fr h₀ L h' m'/\News h₀ L h' ((c,oc)::led c')/\oc.data=.cell v/\(∀p∈led c',p.1≠c/\p.1≠I)/\Has m' (ps c')/\R i c') ?_ (n+1)
   (Uc.ei7 h₁ tk₁ 0 c₀ m₀ oc v₀ ⟨rfl,Nat.zero_le _,rfl,st₁,F₁,N₁,hd,fun p hp=>⟨hne p hp,hIn p (.tail _ hp)⟩,hHas,hR⟩)
  intro k s' w12q;(refine Uc.ex7 w12q fun h' tk i c' m' oc' v'=>Uc.an10 fun e1q hi e2q hst' F' N' hd' hne' hHas' hR'=>?_;clear w12q;subst e1q;subst e2q)
  have offI:∀p∈(c,oc')::led c',p.1≠I:=fun p hp=>by
   rcases List.mem_cons.mp hp with rfl|hp
   ·exact hcI
   ·exact(hne' p hp).2
  by_cases hlt:i<n
  ·refine(W I).item i _ _ _ hlt hst' fun v h₂ tk₂ hPv hst₂ hk₂=>?_
   obtain⟨ti,rfl⟩:=hPv
   have F₂:=fr_but F' hk₂ (Ne.symm hIL) hI₀
   have N₂:News h₀ L h₂ ((c,oc')::led c'):=news_but N' hk₂ offI
   obtain⟨oI,eI,stI⟩:∃oI,h₂.get? I=some oI/\∀h:Heap,h.get? I=some oI->IsRangeIter h I (a₀+((i+1:Nat):Int)*1) ((n:Int)-((i+1:Nat):Int)) 1:=⟨_,hst₂,fun h e=>e⟩
   have N₂':News h₀ L h₂ ((c,oc')::(I,oI)::led c'):=fun p hp=>by
    rcases List.mem_cons.mp hp with rfl|hp
    ·exact N₂ _ (.head _)
    rcases List.mem_cons.mp hp with rfl|hp
    ·exact⟨eI,hIL,hI₀⟩
    ·exact N₂ p (.tail _ hp)
   refine wpAny_assign_Name (storeX_C F₂ N₂' hc (.head (fun p hp=>?_)) hd' (fun h₃ oc₃ F₃ N₃ hd₃=>?_) hk hx)
   ·rcases List.mem_cons.mp hp with rfl|hp
    ·exact Ne.symm hcI
    ·exact(hne' p hp).1
   refine wpAny_passesOwn hE (wpAny_mono (turn i ti c' m' h₃ _ I oI oc₃ hlt hR' hne' hcI hd₃ (by rw[fm_eq hHas'];exact F₃) N₃) (fun f s₄ q=>?_) fun _ _ e=>e)
   have fin:(∃c' m' h' tk' oc v,s₄={ { s₁ with heap:=h₃,toks:=tk₂ } with heap:=h',toks:=tk' }/\Fr h₀ L h' m'/\News h₀ L h' ((c,oc)::(I,oI)::led c')/\oc.data=.cell v/\(∀p∈led c',p.1≠c/\p.1≠I)/\Has m' (ps c')/\R (i+1) c')->
     ∃m,m<n+1-i/\∃h' tk i c' m' oc v,s₄={ s₁ with heap:=h',toks:=tk }/\i<=n/\m=n+1-i/\IsRangeIter h' I (a₀+(i:Nat)*1) ((n:Int)-(i:Nat)) 1/\Fr h₀ L h' m'/\News h₀ L h' ((c,oc)::led c')/\oc.data=.cell v/\(∀p∈led c',p.1≠c/\p.1≠I)/\Has m' (ps c')/\R i c':=by
    intro w13q;(refine Uc.ex6 w13q fun c₅ m₅ h₅ tk₅ oc₅ v₅=>Uc.an7 fun e1q F₅ N₅ hd₅ hne₅ hH₅ hR₅=>?_;clear w13q;subst e1q)
    refine⟨n+1-(i+1),Nat.sub_lt_sub_left (Nat.lt_succ_of_lt hlt) (Nat.lt_succ_self i),Uc.ei7 h₅ tk₅ (i+1) c₅ m₅ oc₅ v₅ ⟨rfl,hlt,rfl,stI _ (N₅ (I,oI) (.tail _ (.head _))).1,F₅,News.sub N₅ fun p hp=>?_,hd₅,hne₅,hH₅,hR₅⟩⟩
    rcases List.mem_cons.mp hp with rfl|hp
    ·exact .head _
    ·exact .tail _ (.tail _ hp)
   cases f with
   |ret v=>exact q
   |brk=>exact q
   |next=>exact fin q
   |cont=>exact fin q
  ·obtain rfl:i=n:=Nat.le_antisymm hi (Nat.not_lt.mp hlt)
   refine(W I).done _ _ _ hst' fun h₂ tk₂ hk₂=>?_
   exact wpAny_pure (done c' m' h₂ tk₂ oc' v' hR' hd' (by rw[fm_eq hHas'];exact fr_but F' hk₂ (Ne.symm hIL) hI₀) (news_but N' hk₂ offI) fun p hp=>(hne' p hp).1)
 refine main _ _ ⟨_,_,rfl,?_,F.push _,fun p hp=>⟨Heap.get?_push_of_some _ (N p hp).1,(N p hp).2⟩⟩ (next_is_new F) (Ne.symm (Nat.ne_of_lt F.ns.lt)) fun p hp=>Nat.ne_of_lt (Heap.lt_size (N p hp).1)
 show IsRangeIter _ _ _ _ _
 rw[hn]
 simpa using Heap.get?_push_size _ rfl
end
end Uc
end
section
namespace Uc
/-! what law 1's numbers say -/
noncomputable def runsOf (n:Nat):List Nat:=if n%3+n / 3%3<4 then[n%3,n / 3%3,min (n / 9%3) (3-(n%3+n / 3%3))] else[n%3,n / 3%3]
noncomputable def trailOf (n:Nat):Nat:=n / 27%3
noncomputable def headOf (n:Nat):List Nat:=List.replicate (n%2) 70++[73]
noncomputable def otherOf (n:Nat):List Nat:=List.replicate (n / 2%3) 102++[105]
noncomputable def lastTab:List Nat:=[172,174,846,848,6149,6151,6154,6158,8202,8206,8287,8289,65023,65040,65278,65280]
noncomputable def lastOf (n:Nat):List Nat:=lastTab.getD (n / 6%16) 0::[101,110,100]
noncomputable def rulerOf (runs:List Nat)(trail:Nat):List Nat:=(runs.map fun s=>List.replicate s 102++[105]).flatten++List.replicate trail 102
theorem foldl_rep (c:Nat):∀(n:Nat) (acc:Array Nat),(List.replicate n #[c]).foldl (· ++·) acc=acc++(List.replicate n c).toArray
 |0,acc=>by simp
 |n+1,acc=>by
  rw[List.replicate_succ,List.foldl_cons,foldl_rep c n,List.replicate_succ]
  apply Array.toList_inj.mp
  simp
theorem mul_rep (c n:Nat):Txt.mul (⟨#[c]⟩:Str) (n:Int)=⟨(List.replicate n c).toArray⟩:=by
 unfold Txt.mul
 match n with
 |0=>rfl
 |1=>rfl
 |n+2=>
  rw[if_neg (by(walk_at "O"))]
  rw[if_neg (by
   have:(((n+2:Nat):Int)==1)=false:=by simp;(walk_at "O")
   rw[this];simp[Str.length])]
  rw[foldl_rep,Int.toNat_natCast]
  simp
noncomputable def barOf (s:Nat):List Nat:=List.replicate s 102++[105]
theorem bars_w:∀(l:List Nat),(∀x∈l,x<=2)->((l.map fun s=>(⟨(barOf s).toArray⟩:Str)).map (·.length)).sum<=3*l.length
 | [],_=>Nat.le_refl _
 |x::l,h=>by
  have a:=bars_w l fun y hy=>h y (.tail _ hy)
  have b:=h x (.head _)
  have e:(⟨(barOf x).toArray⟩:Str).length=x+1:=by show(barOf x).toArray.size=_;simp[barOf]
  rw[List.map_cons,List.map_cons,List.sum_cons,e,List.length_cons]
  omega
theorem bars_len:∀(l:List Nat),(∀x∈l,x<=2)->(l.map barOf).flatten.length<=3*l.length
 | [],_=>Nat.le_refl _
 |x::l,h=>by
  have a:=bars_len l fun y hy=>h y (.tail _ hy)
  have b:=h x (.head _)
  have e:(barOf x).length=x+1:=by simp[barOf]
  rw[List.map_cons,List.flatten_cons,List.length_append,e,List.length_cons]
  omega
end Uc
end
section
namespace Uc
noncomputable def ls0:Stmt:=by
 refine(fun(_:f23_body[0]? =some (.Assign ?a ?b ?c))=>.Assign ?a ?b ?c) ?h
 exact rfl
noncomputable def ls1:Stmt:=by
 refine(fun(_:f23_body[1]? =some (.Assign ?a ?b ?c))=>.Assign ?a ?b ?c) ?h
 exact rfl
noncomputable def ls2:Stmt:=by
 refine(fun(_:f23_body[2]? =some (.Assign ?a ?b ?c))=>.Assign ?a ?b ?c) ?h
 exact rfl
noncomputable def ls3:Stmt:=by
 refine(fun(_:f23_body[3]? =some (.If ?a ?b ?c ?d))=>.If ?a ?b ?c ?d) ?h
 exact rfl
noncomputable def ls4:Stmt:=by
 refine(fun(_:f23_body[4]? =some (.Assign ?a ?b ?c))=>.Assign ?a ?b ?c) ?h
 exact rfl
noncomputable def ls5:Stmt:=by
 refine(fun(_:f23_body[5]? =some (.Assign ?a ?b ?c))=>.Assign ?a ?b ?c) ?h
 exact rfl
noncomputable def ls6:Stmt:=by
 refine(fun(_:f23_body[6]? =some (.Assign ?a ?b ?c))=>.Assign ?a ?b ?c) ?h
 exact rfl
noncomputable def ls7:Stmt:=by
 refine(fun(_:f23_body[7]? =some (.Assign ?a ?b ?c))=>.Assign ?a ?b ?c) ?h
 exact rfl
noncomputable def ls8:Stmt:=by
 refine(fun(_:f23_body[8]? =some (.Assign ?a ?b ?c))=>.Assign ?a ?b ?c) ?h
 exact rfl
noncomputable def ls9:Stmt:=by
 refine(fun(_:f23_body[9]? =some (.For ?a ?b ?c ?d ?e))=>.For ?a ?b ?c ?d ?e) ?h
 exact rfl
noncomputable def ls10:Stmt:=by
 refine(fun(_:f23_body[10]? =some (.Assign ?a ?b ?c))=>.Assign ?a ?b ?c) ?h
 exact rfl
noncomputable def ls11:Stmt:=by
 refine(fun(_:f23_body[11]? =some (.Assign ?a ?b ?c))=>.Assign ?a ?b ?c) ?h
 exact rfl
noncomputable def ls12:Stmt:=by
 refine(fun(_:f23_body[12]? =some (.If ?a ?b ?c ?d))=>.If ?a ?b ?c ?d) ?h
 exact rfl
noncomputable def ls13:Stmt:=by
 refine(fun(_:f23_body[13]? =some (.Assign ?a ?b ?c))=>.Assign ?a ?b ?c) ?h
 exact rfl
noncomputable def ls14:Stmt:=by
 refine(fun(_:f23_body[14]? =some (.Assign ?a ?b ?c))=>.Assign ?a ?b ?c) ?h
 exact rfl
noncomputable def ls15:Stmt:=by
 refine(fun(_:f23_body[15]? =some (.For ?a ?b ?c ?d ?e))=>.For ?a ?b ?c ?d ?e) ?h
 exact rfl
noncomputable def ls16:Stmt:=by
 refine(fun(_:f23_body[16]? =some (.For ?a ?b ?c ?d ?e))=>.For ?a ?b ?c ?d ?e) ?h
 exact rfl
noncomputable def ls17:Stmt:=by
 refine(fun(_:f23_body[17]? =some (.If ?a ?b ?c ?d))=>.If ?a ?b ?c ?d) ?h
 exact rfl
noncomputable def ls18:Stmt:=by
 refine(fun(_:f23_body[18]? =some (.Return ?a ?b))=>.Return ?a ?b) ?h
 exact rfl
theorem law_stmts:f23_body=[ls0,ls1,ls2,ls3,ls4,ls5,ls6,ls7,ls8,ls9,ls10,ls11,ls12,ls13,ls14,ls15,ls16,ls17,ls18]:=by rfl
noncomputable abbrev lawCl (L:Addr):List (Str×Addr):=[(ofString "small",L+6),(ofString "total",L+5),(ofString "count",L+4),(ofString "lexer",L+3),(ofString "firsts",L+2),(ofString "script",L+1)]
noncomputable abbrev lawEnv (L fa:Addr)(cd:Value):Env:=envX (ofString "law") f23_scope L fa cd (lawCl L)
noncomputable abbrev lawA (dp un:Nat)(gd:Option (List Code))(outer:List Env)(L fa:Addr)(cd:Value):Around:=ktrTop dp un gd (ofString "law") f23_scope L fa cd (lawCl L) outer
theorem toFm {h₀ h:Heap}{L:Addr}{m:Str->Option Value}(F:Fr h₀ L h m)(l:Nms)(hk:Has m l):Fr h₀ L h (fm m l):=by rw[fm_eq hk];exact F
end Uc
end
section
namespace Uc
set_option genInjectivity false in
set_option genSizeOf false in
structure WsA where
 a:Addr
 d:Addr
 P:Addr
 T:Addr
 vs:List Value
 tx:Tok
 tn:Tok
 tt:Tok
 tb:Tok
 k0:Tok
 k1:Tok
 k2:Tok
 k3:Tok
 k4:Tok
noncomputable abbrev wsDq (w:World)(q:WsA)(x:Str):Obj:=dictOf [{ hash:=PyData.keyHash w.params (ofString "raw"),key:=Value.str (ofString "raw") q.k0,val:=.str x q.tx },{ hash:=PyData.keyHash w.params (ofString "n"),key:=Value.str (ofString "n") q.k1,val:=.int ((wsOf x).n:Int) q.tn },{ hash:=PyData.keyHash w.params (ofString "nt"),key:=Value.str (ofString "nt") q.k2,val:=.int ((wsOf x).nt:Int) q.tt },{ hash:=PyData.keyHash w.params (ofString "norm"),key:=Value.str (ofString "norm") q.k3,val:=.ref q.P },{ hash:=PyData.keyHash w.params (ofString "is_simple"),key:=Value.str (ofString "is_simple") q.k4,val:=.bool (decide (((wsOf x).cs.length:Int)<=1)) }] 5
noncomputable abbrev wsPq (q:WsA)(x:Str):Obj:={ cls:=Value.type "tuple",data:=Data.seq #[Value.ref q.T,Value.int ((wsOf x).b:Int) q.tb] }
noncomputable abbrev wsTq (q:WsA):Obj:={ cls:=Value.type "tuple",data:=Data.seq q.vs.toArray }
noncomputable def wsLed (w:World)(x:Str)(q:WsA):Led:=(q.a,instObj 189 q.d)::(q.d,Uc.wsDq w q x)::(q.P,Uc.wsPq q x)::(q.T,Uc.wsTq q)::[]
noncomputable def wsEq (s t:WS):Bool:=decide (s.cs=t.cs)&&s.b==t.b
noncomputable def wsLong (s:WS):Int:=max ((s.cs.length:Int)-1) (s.b:Int)
theorem ints_eqAt {A:Around}{s:Shared}:∀{vs ws:List Value} {ns ms:List Int},IntsAre vs ns->IntsAre ws ms->∀j (h1:j<vs.toArray.size) (h2:j<ws.toArray.size),PySem.SeqAt.EqAt A s vs.toArray[j] ws.toArray[j] (ns.getD j 0==ms.getD j 0):=by
 intro vs ws ns ms h1 h2 j k1 k2
 have k1':j<vs.length:=by simpa using k1
 have k2':j<ws.length:=by simpa using k2
 rcases intsAre_get h1 j with ⟨a,_⟩|⟨n,t,a,b⟩
 ·rw[List.getElem?_eq_getElem k1'] at a;cases a
 rcases intsAre_get h2 j with ⟨a',_⟩|⟨n',t',a',b'⟩
 ·rw[List.getElem?_eq_getElem k2'] at a';cases a'
 rw[List.getElem?_eq_getElem k1'] at a
 rw[List.getElem?_eq_getElem k2'] at a'
 have e1:vs.toArray[j]=.int n t:=by simpa using Option.some.inj a
 have e2:ws.toArray[j]=.int n' t':=by simpa using Option.some.inj a'
 rw[e1,e2,List.getD_eq_getElem?_getD,List.getD_eq_getElem?_getD,b,b']
 exact PySem.SeqAt.EqAt.int_int n t n' t'
theorem all_eq (ns ms:List Int):((List.range (min ns.length ms.length)).all (fun j=>ns.getD j 0==ms.getD j 0)&&ns.length==ms.length)=decide (ns=ms):=by
 rw[Bool.eq_iff_iff]
 simp only[Bool.and_eq_true,List.all_eq_true,List.mem_range,beq_iff_eq,decide_eq_true_eq]
 constructor
 ·rintro⟨h,e⟩
  refine List.ext_getElem e fun j h1 h2=>?_
  have:=h j (by omega)
  rw[List.getD_eq_getElem?_getD,List.getD_eq_getElem?_getD,List.getElem?_eq_getElem h1,List.getElem?_eq_getElem h2] at this
  exact this
 ·rintro rfl
  exact⟨fun _ _=>rfl,rfl⟩
theorem norm_eqAt {A:Around}{s:Shared}{P T P' T':Addr}{vs ws:List Value}{ns ms:List Int}{b b':Nat}{tb tb':Tok}(hP:s.heap.IsTuple P #[.ref T,.int (b:Int) tb])(hT:s.heap.IsTuple T vs.toArray)(hP':s.heap.IsTuple P' #[.ref T',.int (b':Int) tb'])(hT':s.heap.IsTuple T' ws.toArray)
  (h1:IntsAre vs ns) (h2:IntsAre ws ms) (hu:A.units<cLine) (hu2:A.in1.units<cLine):PySem.SeqAt.RcAt A s (.ref P) (.ref P') (decide (ns=ms)&&b==b'):=by
 have key:PySem.SeqAt.EqAt A.in1 s (.ref T) (.ref T') (decide (ns=ms)):=by
  by_cases e:T=T'
  ·subst e
   obtain⟨o,e1,_,n,e2⟩:=hT
   obtain⟨o',e1',_,n',e2'⟩:=hT'
   rw[e1] at e1'
   cases e1'
   rw[e2] at e2'
   have evs:vs=ws:=by injection e2' with q;simpa using q
   subst evs
   have:ns=ms:=by
    clear e2 e2' e1
    induction h1 generalizing ms with
    |nil=>cases h2;rfl
    |cons n t h ih=>cases h2 with|cons _ _ h'=>rw[ih h']
   rw[decide_eq_true this]
   exact PySem.SeqAt.EqAt.same _
  ·refine PySem.SeqAt.EqAt.of_refs e ?_
   have:=PySem.SeqAt.RcAt.tuples (A:=A.in1) (e:=fun j=>ns.getD j 0==ms.getD j 0) hT hT' hu2 (ints_eqAt h1 h2)
   rw[<-all_eq ns ms, <-intsAre_len h1, <-intsAre_len h2]
   simpa using this
 have:=PySem.SeqAt.RcAt.tuples (A:=A) (e:=fun j=>if j=0 then decide (ns=ms) else(b==b')) hP hP' hu fun j k1 k2=>by
  cases j with
  |zero=>exact key
  |succ j=>
   obtain rfl:j=0:=Nat.lt_one_iff.mp (Nat.lt_of_succ_lt_succ k1)
   have e:((b:Int)==(b':Int))=(b==b'):=by
    rw[Bool.eq_iff_iff,beq_iff_eq,beq_iff_eq];omega
   show PySem.SeqAt.EqAt A.in1 s (.int (b:Int) tb) (.int (b':Int) tb') (b==b')
   rw[<-e]
   exact PySem.SeqAt.EqAt.int_int _ _ _ _
 have e:((List.range (min (#[Value.ref T,.int (b:Int) tb]:Array Value).size (#[Value.ref T',.int (b':Int) tb']:Array Value).size)).all (fun j=>if j=0 then decide (ns=ms) else(b==b'))&&(#[Value.ref T,.int (b:Int) tb]:Array Value).size==(#[Value.ref T',.int (b':Int) tb']:Array Value).size)=(decide (ns=ms)&&b==b'):=by
  show((List.range 2).all _&&true)=_
  rw[show List.range 2=[0,1] from rfl];simp
 rw[e] at this
 exact this
section
variable (w:World)(p:Program)(loose:List Str)(mean:ExcName->Option Value)(mg mb:Str->Option Value)
theorem equal_c (news:List (Addr×Obj))(x y:Str)(q r:WsA)(hq:IntsAre q.vs (wsOf x).cs)(hr:IntsAre r.vs (wsOf y).cs):
  Con w p loose mean mg mb 165 8 30 [.ref q.a,.ref r.a] ((q.a,instObj 189 q.d)::(q.d,Uc.wsDq w q x)::(q.P,Uc.wsPq q x)::(q.T,Uc.wsTq q)::(r.a,instObj 189 r.d)::(r.d,Uc.wsDq w r y)::(r.P,Uc.wsPq r y)::(r.T,Uc.wsTq r)::news) (fun _=>True) (fun v n=>n=(q.a,instObj 189 q.d)::(q.d,Uc.wsDq w q x)::(q.P,Uc.wsPq q x)::(q.T,Uc.wsTq q)::(r.a,instObj 189 r.d)::(r.d,Uc.wsDq w r y)::(r.P,Uc.wsPq r y)::(r.T,Uc.wsTq r)::news/\v=.bool (wsEq (wsOf x) (wsOf y))):=by
 dsimp only[Con,Pm]
 k_fill
 (set_option tactic.hygienic true in intros)
 rename_i hret
 refine wpAny_call ?_
 k_dflt cell_enter
 walk_at "X"
 rename News _ _ _ _=>N9
 refine norm_eqAt (vs:=q.vs) (ws:=r.vs) ⟨_,(N9 (q.P,_) (by k_mem)).1,rfl,_,rfl⟩ ⟨_,(N9 (q.T,_) (by k_mem)).1,rfl,_,rfl⟩ ⟨_,(N9 (r.P,_) (by k_mem)).1,rfl,_,rfl⟩ ⟨_,(N9 (r.T,_) (by k_mem)).1,rfl,_,rfl⟩ hq hr (by ktr_units) (by ktr_units) _ _ _ _ ?_
 walk_at "X"
 exact hret _ _ _ _ ⟨rfl,rfl⟩ ‹_› ‹_›
theorem longest_c (news:List (Addr×Obj))(x:Str)(q:WsA)(hq:IntsAre q.vs (wsOf x).cs)(hl:q.vs.length<=1000)(hb:(wsOf x).b<=1000):
  Con w p loose mean mg mb 151 4 30 [.ref q.a] ((q.a,instObj 189 q.d)::(q.d,Uc.wsDq w q x)::(q.P,Uc.wsPq q x)::(q.T,Uc.wsTq q)::news) (fun _=>True) (fun v n=>n=(q.a,instObj 189 q.d)::(q.d,Uc.wsDq w q x)::(q.P,Uc.wsPq q x)::(q.T,Uc.wsTq q)::news/\∃t,v=.int (wsLong (wsOf x)) t):=by
 have hlen:=intsAre_len hq
 dsimp only[Con,Pm]
 k_fill
 (set_option tactic.hygienic true in intros)
 rename_i hret
 refine wpAny_call ?_
 k_dflt cell_enter
 repeat' (first|(walk_at "P")|(walk_at "V";first|(((with_reducible show wpAny _ _ (call (Value.builtin "len") [Value.ref _]) _ _ _);refine kun_lenT (k:=((_:List Value).length:Int)) (News.isTup ‹_› (by k_mem)) (by simp only[List.size_toArray];rfl) (by omega) ?_))|(walk_at "T")))
 have e:∀a b:Int,(if b>a then b else a)=max a b:=fun a b=>by split<;>omega
 rw[e,hlen]
 exact hret _ _ _ _ ⟨rfl,_,rfl⟩ ‹_› ‹_›
end
end Uc
end
section
namespace Uc
open PyProof.Rows.LCg
noncomputable def lowC (c:Nat):Nat:=if c=70 then 102 else if c=73 then 105 else c
noncomputable def Ltr (c:Nat):Prop:=c=102∨c=105∨c=70∨c=73
theorem low_b3 {c:Nat}(h:Ltr c):mapB3 c=mkS [lowC c]:=by
 rcases h with rfl|rfl|rfl|rfl<;>decide+kernel
theorem join_low (l:List Nat)(h:∀c∈l,Ltr c):Txt.join (ofString "") (l.map mapB3)=mkS (l.map lowC):=by
 have e:l.map mapB3=(l.map fun c=>[lowC c]).map mkS:=by
  rw[List.map_map]
  exact List.map_congr_left fun c hc=>low_b3 (h c hc)
 rw[e,join_flat]
 congr 1
 clear e h
 induction l with
 |nil=>rfl
 |cons c l ih=>rw[List.map_cons,List.flatten_cons,ih];rfl
theorem low_w {x:List Nat}(h:∀c∈x,Ltr c)(hx:x.length<=1000):((x.map mapB3).map (·.length)).sum+(x.map mapB3).length<=1048576:=by
 have h1:∀l:List Nat,(∀c∈l,Ltr c)->((l.map mapB3).map (·.length)).sum=l.length:=fun l=>by
  induction l with
  |nil=>intro _;rfl
  |cons c l ih=>
   intro h
   rw[List.map_cons,List.map_cons,List.sum_cons,ih fun c hc=>h c (.tail _ hc),low_b3 (h c (.head _)),List.length_cons]
   show 1+_=_
   omega
 rw[h1 x h,List.length_map]
 omega
section
variable (w:World)(p:Program)(loose:List Str)(mean:ExcName->Option Value)(mg mb:Str->Option Value)
theorem small_c (news:List (Addr×Obj))(x:List Nat)(tx:Tok)(hx:x.length<=1000)(hb:∀c∈x,Ltr c):
  Con w p loose mean mg mb 229 16 60 [.str (mkS x) tx] news (fun _=>True) (fun v n'=>n'=news/\∃t,v=.str (mkS (x.map lowC)) t):=by
 dsimp only[Con,Pm]
 k_fill
 (set_option tactic.hygienic true in intros)
 rename_i hret
 refine wpAny_call ?_
 k_dflt cell_enter
 (refine Uc.letAE ?_;intro AA EE)
 repeat' (first|(walk_at "P")|(walk_at "V";first|((with_reducible show wpAny _ _ (callWith _ (Value.builtin _) _ _ _) _ _ _);dsimp only;first|((with_reducible show wpAny _ _ (callWith _ (Value.builtin "list.append") _ _ _) _ _ _);refine callWith_method1 ?_)|((with_reducible show wpAny _ _ (callWith _ (Value.builtin "str.join") _ _ _) _ _ _);refine callWith_method1 ?_))|((with_reducible show wpAny _ _ (eval (Expr.ListComp _ _ _ _) _) _ _ _);(k_dflt (refine Uc.comp_str (by rfl) (by decide) (by rfl) (by decide) (by rfl) ?_ (by intro _;rfl))))|(walk_at "T")))
 rename Fr _ _ _ _=>F7
 rename News _ _ _ _=>N7
 have hy7:(mkS x).length=x.length:=mkS_len x
 refine Uc.ei7 _ _ _ (mkS x) _ news (fun i ys nw=>nw=news/\StrsAre ys ((x.take i).map mapB3)) ⟨rfl,rfl,F7,N7,by rw[hy7];omega,⟨rfl,.nil⟩,?T,?fin⟩
 case T=>
  intro g i v ys nw I oI C oC D m₂ h tk E' hi w2q w3q _ hoC hm2 F N off w4q;(refine Uc.ex2 w2q fun c t=>Uc.an2 fun hc e1q=>?_;clear w2q;subst e1q);(refine Uc.ah2 w3q fun e1q hR=>?_;clear w3q;subst e1q);(refine Uc.ah3 w4q fun d1 d2 d3=>?_;clear w4q)
  have hcl:x[i]? =some c:=by simpa [mkS] using hc
  have hk:(x.take (i+1)).map mapB3=(x.take i).map mapB3++[mapB3 c]:=by
   rw[List.take_add_one,hcl,List.map_append];rfl
  have hcc:=hb c (List.mem_of_getElem? hcl)
  refine wpAny_tests_nil ?_
  simp only[if_true]
  walk_at "X"
  (refine map_b3 w p loose mean mg mb _ c t (by rcases hcc with rfl|rfl|rfl|rfl<;>decide) _ _ _ _ _ _ _ _ _ _ _ _ _ _ _ _ _ ‹_› ‹_› ‹_› ‹_› ‹_› (by first|assumption|rfl) ?pre (by walk_at "r") (by walk_at "u") ?_);(case pre=>first|exact trivial|assumption)
  refine kEn1v ?_
  intro t' h' tk' F N
  walk_at "X"
  exact TurnC.mk nw ‹_› ‹_› (fun _ h=>h) off ⟨trivial,rfl,by rw[hk];exact StrsAre.append' hR (.cons _ _ .nil)⟩
 case fin=>
  rintro D h tk ys nw ⟨rfl,hR⟩ F N o1
  rw[hy7,List.take_of_length_le (Nat.le_refl _)] at hR
  walk_at "X"
  refine join_listW (ys:=x.map mapB3) (News.isList N (.head _)) hR (Nat.zero_le _) (low_w hb hx) ?_
  intro t' k'
  rw[join_low x hb]
  walk_at "X"
  exact hret _ _ _ _ ⟨rfl,_,rfl⟩ ‹_› (News.sub ‹_› (by walk_at "I"))
end
end Uc
end
section
namespace Uc
open PyProof.Rows.LCg
noncomputable def ledC (c:Nat):Nat:=if c=105 then 9 else 32
theorem fi_index {c:Nat}(h:c=102∨c=105):∃i rest,Builtin.Str.occurrences (ofString "fi") (chr1 c) 0 (ofString "fi").length 1=i::rest/\Txt.item (ofString " \t") (i:Int)=mkS [ledC c]/\i<2:=by
 rcases h with rfl|rfl
 ·exact⟨0,[],by decide+kernel,by decide+kernel,by decide⟩
 ·exact⟨1,[],by decide+kernel,by decide+kernel,by decide⟩
theorem led_w {x:List Nat}(hx:x.length<=1000):((chrs x).map (·.length)).sum+(chrs x).length<=1048576:=chrs_w (by omega)
section
variable (w:World)(p:Program)(loose:List Str)(mean:ExcName->Option Value)(mg mb:Str->Option Value)
theorem lead1_c (news:List (Addr×Obj))(x:List Nat)(tx:Tok)(hx:x.length<=1000)(hb:∀c∈x,c=102∨c=105):
  Con w p loose mean mg mb 234 20 80 [.str (mkS x) tx] news (fun _=>True) (fun v n'=>∃q:WsA,n'=(q.a,instObj 189 q.d)::(q.d,Uc.wsDq w q (mkS (x.map ledC)))::(q.P,Uc.wsPq q (mkS (x.map ledC)))::(q.T,Uc.wsTq q)::news/\v=.ref q.a/\IntsAre q.vs (wsOf (mkS (x.map ledC))).cs):=by
 dsimp only[Con,Pm]
 k_fill
 (set_option tactic.hygienic true in intros)
 rename_i hret
 refine wpAny_call ?_
 k_dflt cell_enter
 repeat' (first|(walk_at "P")|(walk_at "V";first|((with_reducible show wpAny _ _ (callWith _ (Value.builtin _) _ _ _) _ _ _);dsimp only;first|((with_reducible show wpAny _ _ (callWith _ (Value.builtin "list.append") _ _ _) _ _ _);refine callWith_method1 ?_)|((with_reducible show wpAny _ _ (callWith _ (Value.builtin "str.join") _ _ _) _ _ _);refine callWith_method1 ?_))|((with_reducible show wpAny _ _ (eval (Expr.ListComp _ _ _ _) _) _ _ _);(k_dflt (refine Uc.comp_str (by rfl) (by decide) (by rfl) (by decide) (by rfl) ?_ (by intro _;rfl))))|(walk_at "T")))
 rename Fr _ _ _ _=>F7
 rename News _ _ _ _=>N7
 have hy7:(mkS x).length=x.length:=mkS_len x
 refine Uc.ei7 _ _ _ (mkS x) _ news (fun i ys nw=>nw=news/\StrsAre ys (chrs ((x.take i).map ledC))) ⟨rfl,rfl,F7,N7,by rw[hy7];omega,⟨rfl,.nil⟩,?T,?fin⟩
 case T=>
  intro g i v ys nw I oI C oC D m₂ h tk E' hi w6q w7q _ hoC hm2 F N off w8q;(refine Uc.ex2 w6q fun c t=>Uc.an2 fun hc e1q=>?_;clear w6q;subst e1q);(refine Uc.ah2 w7q fun e1q hR=>?_;clear w7q;subst e1q);(refine Uc.ah3 w8q fun d1 d2 d3=>?_;clear w8q)
  have hcl:x[i]? =some c:=by simpa [mkS] using hc
  have hk:chrs ((x.take (i+1)).map ledC)=chrs ((x.take i).map ledC)++[mkS [ledC c]]:=by
   rw[List.take_add_one,hcl,List.map_append]
   unfold chrs
   rw[List.map_append];rfl
  have hcc:=hb c (List.mem_of_getElem? hcl)
  (refine Uc.ex2 (fi_index hcc) fun ix rest=>Uc.an3 fun o1 o2 o3=>?_)
  refine wpAny_tests_nil ?_
  simp only[if_true]
  repeat' (first|(walk_at "P")|(walk_at "V";first|((with_reducible show wpAny _ _ (call (Value.builtin "str.index") _) _ _ _);(refine SC.index o1 ?_))|(walk_at "T")))
  exact TurnC.mk nw ‹_› ‹_› (fun _ h=>h) off ⟨trivial,rfl,by rw[hk,o2];exact StrsAre.append' hR (.cons _ _ .nil)⟩
 case fin=>
  rintro D h tk ys nw ⟨rfl,hR⟩ F N o1
  rw[hy7,List.take_of_length_le (Nat.le_refl _)] at hR
  walk_at "X"
  refine join_listW (ys:=chrs (x.map ledC)) (News.isList N (.head _)) hR (Nat.zero_le _) (led_w (by rw[List.length_map];exact hx)) ?_
  intro t' k'
  rw[join_chrs]
  walk_at "X"
  (refine ws_make w p loose mean mg mb _ (mkS (x.map ledC)) t' (by rw[mkS_len,List.length_map];omega) _ _ _ _ _ _ _ _ _ _ _ _ _ _ _ _ _ ‹_› ‹_› ‹_› ‹_› ‹_› (by first|assumption|rfl) ?pre (by walk_at "r") (by walk_at "u") ?_);(case pre=>first|exact trivial|assumption)
  first|refine kE13nvp ?_|refine kE13vnp ?_
  intro a d P T vs tn tt tb k0 k1 k2 k3 k4 h' tk' hvs F N
  walk_at "X"
  exact hret _ _ _ _ ⟨⟨a,d,P,T,vs,t',tn,tt,tb,k0,k1,k2,k3,k4⟩,rfl,rfl,hvs⟩ ‹_› (News.sub ‹_› (by walk_at "I"))
end
end Uc
end
section
namespace Uc
noncomputable def typedTab:List (Nat×List Nat):=[(64259,[102,102,105]),(64256,[102,102]),(64257,[102,105]),(70,[70]),(73,[73])]++(bases.map fun b=>(b+102-97,[102]))++(bases.map fun b=>(b+105-97,[105]))
noncomputable def readOne (c:Nat):Str:=if c<128 then chr1 c else mapB3 c
theorem typed_ok:typedTab.all (fun t=> !isB1 (t.1:Int)&&decide (readOne t.1=mkS t.2)&&decide (t.1<1114112)&&decide ((mapB3 t.1).length<=100)&& !isWs t.1&&t.1 !=34&&t.1 !=92)=true:=by decide+kernel
theorem sign_ok:(List.range 27).all (fun n=>isB1 (signOf n:Int)&&decide (signOf n<1114112)&&decide ((mapB3 (signOf n)).length<=100)&& !isWs (signOf n)&&signOf n !=34&&signOf n !=92)=true:=by decide+kernel
structure Plainly (c:Nat):Prop where
 lt:c<1114112
 b3:(mapB3 c).length<=100
 ws:isWs c=false
 q:c≠34
 e:c≠92
theorem typed_get {t:Nat×List Nat}(h:t∈typedTab):isB1 (t.1:Int)=false/\readOne t.1=mkS t.2/\Plainly t.1:=by
 have:=List.all_eq_true.mp typed_ok t h
 simp only[Bool.and_eq_true,Bool.not_eq_true',decide_eq_true_eq,bne_iff_ne,ne_eq] at this
 exact⟨this.1.1.1.1.1.1,this.1.1.1.1.1.2,this.1.1.1.1.2,this.1.1.1.2,this.1.1.2,this.1.2,this.2⟩
theorem sign_mod (n:Nat):signOf n=signOf (n%27):=by
 unfold signOf
 rw[Nat.mod_mod]
theorem sign_get (n:Nat):isB1 (signOf n:Int)=true/\Plainly (signOf n):=by
 rw[sign_mod]
 have:=List.all_eq_true.mp sign_ok (n%27) (List.mem_range.mpr (Nat.mod_lt _ (by decide)))
 simp only[Bool.and_eq_true,Bool.not_eq_true',decide_eq_true_eq,bne_iff_ne,ne_eq] at this
 exact⟨this.1.1.1.1.1,this.1.1.1.1.2,this.1.1.1.2,this.1.1.2,this.1.2,this.2⟩
theorem fi_mem {c:Nat}(h:c=102∨c=105∨c=70∨c=73)(r:Nat):((if c=70∨c=73 then c else bases.getD (r / 3%10) 97+c-97),[c])∈typedTab:=by
 unfold typedTab
 have hb:=base_in r
 rcases h with rfl|rfl|rfl|rfl
 ·rw[if_neg (by decide)]
  exact List.mem_append_left _ (List.mem_append_right _ (List.mem_map_of_mem (f:=fun b=>(b+102-97,[102])) hb))
 ·rw[if_neg (by decide)]
  exact List.mem_append_right _ (List.mem_map_of_mem (f:=fun b=>(b+105-97,[105])) hb)
 ·rw[if_pos (by decide)];exact List.mem_append_left _ (List.mem_append_left _ (.tail _ (.tail _ (.tail _ (.head _)))))
 ·rw[if_pos (by decide)];exact List.mem_append_left _ (List.mem_append_left _ (.tail _ (.tail _ (.tail _ (.tail _ (.head _))))))
theorem take_drop_eq {l P:List Nat}{k j:Nat}(h:l.take k=P)(hj:P.length=j):l=P++l.drop j:=by
 subst h
 rw[List.length_take] at hj
 by_cases hk:k<=l.length
 ·rw[Nat.min_eq_left hk] at hj
  subst hj
  rw[List.take_append_drop]
 ·rw[Nat.min_eq_right (by(walk_at "O"))] at hj
  subst hj
  rw[List.take_of_length_le (by(walk_at "O")),List.drop_of_length_le (Nat.le_refl _),List.append_nil]
set_option tactic.hygienic true in
theorem spell_typed:∀(k:Nat) (x:List Nat) (r:Nat),x.length<=k->(∀c∈x,c=102∨c=105∨c=70∨c=73)->∃ts:List (Nat×List Nat),spell k x r=ts.map (·.1)/\x=(ts.map (·.2)).flatten/\∀t∈ts,t∈typedTab
 |0,[],_,_,_=>⟨[],rfl,rfl,fun _ h=>nomatch h⟩
 |0,c::t,_,h,_=>absurd h (by simp)
 |k+1,[],_,_,_=>⟨[],rfl,rfl,fun _ h=>nomatch h⟩
 |k+1,c::t,r,h,hc=>by
  have lig:∀(P:List Nat) (j z:Nat),(c::t).take (3-r%3)=P->P.length=j->1<=j->(z,P)∈typedTab->∃ts:List (Nat×List Nat),z::spell k ((c::t).drop j) (r / 30)=ts.map (·.1)/\c::t=(ts.map (·.2)).flatten/\∀t∈ts,t∈typedTab:=fun P j z e hl hj hz=>by
   have e2:=take_drop_eq e hl
   have hd:((c::t).drop j).length<=k:=by rw[List.length_drop];simp only[List.length_cons] at h ⊢;(walk_at "O")
   obtain⟨ts,a,b,g⟩:=spell_typed k ((c::t).drop j) (r / 30) hd fun d hd=>hc d (List.mem_of_mem_drop hd)
   refine⟨(z,P)::ts,by rw[a];rfl,?_,fun q hq=>?_⟩
   ·rw[List.map_cons,List.flatten_cons, <-b];exact e2
   ·rcases List.mem_cons.mp hq with rfl|hq
    ·exact hz
    ·exact g q hq
  rw[spell_eq]
  split
  ·rename_i e;exact lig _ 3 _ e rfl (by decide) (by decide)
  split
  ·rename_i e;exact lig _ 2 _ e rfl (by decide) (by decide)
  split
  ·rename_i e;exact lig _ 2 _ e rfl (by decide) (by decide)
  ·obtain⟨ts,a,b,g⟩:=spell_typed k t (r / 30) (by simp only[List.length_cons] at h;(walk_at "O")) fun d hd=>hc d (.tail _ hd)
   refine⟨(_,[c])::ts,by rw[a];rfl,by rw[List.map_cons,List.flatten_cons, <-b];rfl,fun q hq=>?_⟩
   rcases List.mem_cons.mp hq with rfl|hq
   ·exact fi_mem (hc c (.head _)) r
   ·exact g q hq
theorem keptL_app (a b:List Nat):keptL (a++b)=keptL a++keptL b:=by unfold keptL;rw[List.filter_append,List.map_append]
theorem keptL_sign (n:Nat)(l:List Nat):keptL (signOf n::l)=keptL l:=by
 unfold keptL
 rw[List.filter_cons,if_neg (by rw[(sign_get n).1];decide)]
theorem keptL_typed:∀(ts:List (Nat×List Nat)),(∀t∈ts,t∈typedTab)->keptL (ts.map (·.1))=(ts.map (·.2)).map mkS
 | [],_=>rfl
 |t::ts,h=>by
  have ih:=keptL_typed ts fun q hq=>h q (.tail _ hq)
  obtain⟨h1,h2,_⟩:=typed_get (h t (.head _))
  unfold keptL at ih ⊢
  unfold readOne at h2
  rw[List.map_cons,List.filter_cons,if_pos (by rw[h1];rfl),List.map_cons,ih,List.map_cons,List.map_cons,h2]
theorem kept_raw (x:List Nat)(n:Nat)(hx:∀c∈x,c=102∨c=105∨c=70∨c=73):Txt.join (ofString "") (keptL (rawOf x n))=mkS x/\(∀c∈rawOf x n,Plainly c)/\rawOf x n≠[]:=by
 obtain⟨ts,a,b,g⟩:=spell_typed x.length x n (Nat.le_refl _) hx
 have hp:∀c∈typedOf x n,Plainly c:=fun c hc=>by
  unfold typedOf at hc
  rw[a] at hc
  obtain⟨t,ht,rfl⟩:=List.mem_map.mp hc
  exact(typed_get (g t ht)).2.2
 unfold rawOf
 refine⟨?_,fun c hc=>?_,by simp⟩
 ·(try dsimp only)
  rw[keptL_app,keptL_sign, <-keptL_app,List.take_append_drop]
  unfold typedOf
  rw[a,keptL_typed ts g,join_flat, <-b]
 ·dsimp only at hc
  rcases List.mem_append.mp hc with hc|hc
  ·exact hp c (List.mem_of_mem_take hc)
  rcases List.mem_cons.mp hc with rfl|hc
  ·exact(sign_get n).2
  ·exact hp c (List.mem_of_mem_drop hc)
theorem bGo_plain {r:List Nat}{z:Nat}(hz:isWs z=true):∀(l acc:List Nat),(∀c∈l,Plainly c)->bGo (l++z::r) acc=(acc++l,r)
 | [],acc,_=>by rw[List.nil_append,b_w hz,List.append_nil]
 |c::l,acc,h=>by
  rw[List.cons_append,b_b (h c (.head _)).ws (h c (.head _)).e,bGo_plain hz l _ fun d hd=>h d (.tail _ hd),List.append_assoc];rfl
theorem bGo_esc {r:List Nat}{z:Nat}(hz:isWs z=true):∀(l acc:List Nat),bGo ((l.map fun c=>[92,c]).flatten++z::r) acc=(acc++l,r)
 | [],acc=>by rw[List.map_nil,List.flatten_nil,List.nil_append,b_w hz,List.append_nil]
 |c::l,acc=>by
  rw[List.map_cons,List.flatten_cons]
  show bGo (92::c::((l.map fun c=>[92,c]).flatten++z::r)) acc=_
  rw[b_e1,bGo_esc hz l,List.append_assoc];rfl
theorem qGo_plain {r:List Nat}:∀(l acc:List Nat),(∀c∈l,Plainly c)->qGo (l++34::r) acc=(acc++l,r)
 | [],acc,_=>by rw[List.nil_append,q_q,List.append_nil]
 |c::l,acc,h=>by
  rw[List.cons_append,q_b (h c (.head _)).q (h c (.head _)).e,qGo_plain l _ fun d hd=>h d (.tail _ hd),List.append_assoc];rfl
theorem sep_ws (n:Nat):isWs (wsS.getD (n / 21%4) 0)=true:=by
 have hz:n / 21%4<4:=Nat.mod_lt _ (by decide)
 generalize n / 21%4=z at hz
 match z,hz with
 |0,_|1,_|2,_|3,_=>rfl
theorem tok_skip {r:List Nat}:∀(l:List Nat),(∀c∈l,isWs c=true)->tokGo (l++r)=tokGo r
 | [],_=>rfl
 |c::l,h=>by rw[List.cons_append,tok_ws (h c (.head _)),tok_skip l fun d hd=>h d (.tail _ hd)]
theorem read_next (x:List Nat)(n:Nat)(rest:List Nat)(hx:∀c∈x,c=102∨c=105∨c=70∨c=73)(ws:List Nat)(hw:∀c∈ws,isWs c=true):∃ws',(∀c∈ws',isWs c=true)/\tokGo (ws++(spelled x n++rest))=(rawOf x n,ws'++rest):=by
 obtain⟨_,hp,hne⟩:=kept_raw x n hx
 rw[tok_skip ws hw]
 unfold spelled quoted
 rw[List.append_assoc]
 have hz:=sep_ws n
 generalize wsS.getD (n / 21%4) 0=z at hz
 obtain⟨c,l,e⟩:∃c l,rawOf x n=c::l:=by
  cases h:rawOf x n with
  |nil=>exact absurd h hne
  |cons c l=>exact⟨c,l,rfl⟩
 rw[e] at hp ⊢
 have hl:∀d∈l,Plainly d:=fun d hd=>hp d (.tail _ hd)
 split
 ·refine⟨[z],fun d hd=>by rw[List.mem_singleton.mp hd];exact hz,?_⟩
  show tokGo (34::92::c::(l++[34]++(z::rest)))=_
  rw[tok_q,q_e1,List.append_assoc]
  show qGo (l++34::(z::rest)) [c]=_
  rw[qGo_plain l _ hl];rfl
 split
 ·refine⟨[],fun d hd=>(nomatch hd),?_⟩
  show tokGo (92::c::((l.map fun c=>[92,c]).flatten++z::rest))=_
  rw[tok_e1,bGo_esc hz l];rfl
 ·refine⟨[],fun d hd=>(nomatch hd),?_⟩
  show tokGo (c::(l++z::rest))=_
  rw[tok_b (hp c (.head _)).ws (hp c (.head _)).q (hp c (.head _)).e,bGo_plain hz l _ hl];rfl
end Uc
end
section
namespace Uc
open PyProof.Rows.LCg
theorem mem_fold {α:Type}(segs:List (List α))(r:List α)(p:α):∀js:List Nat,p∈js.foldr (fun i acc=>segs.getD i []++acc) r↔(∃j∈js,p∈segs.getD j [])∨p∈r
 | []=>⟨.inr,fun h=>h.elim (fun⟨_,h,_⟩=>absurd h List.not_mem_nil) id⟩
 |j::js=>by
  rw[List.foldr_cons,List.mem_append,mem_fold segs r p js]
  exact⟨fun h=>h.elim (fun h=>.inl ⟨j,.head _,h⟩) (fun h=>h.imp (fun⟨k,a,b⟩=>⟨k,.tail _ a,b⟩) id),fun h=>h.elim (fun⟨k,a,b⟩=>by
   cases a with
   |head=>exact .inl b
   |tail _ a=>exact .inr (.inl ⟨k,a,b⟩)) fun h=>.inr (.inr h)⟩
theorem subL {α:Type}(segs:List (List α))(is js:List Nat)(h:js.all (fun j=>is.contains j)=true)(r:List α):∀p∈js.foldr (fun i acc=>segs.getD i []++acc) r,p∈is.foldr (fun i acc=>segs.getD i []++acc) r:=fun p hp=>
 (mem_fold segs r p is).mpr (((mem_fold segs r p js).mp hp).imp (fun⟨j,a,b⟩=>⟨j,by simpa using List.all_eq_true.mp h j a,b⟩) id)
theorem lex_ne {w:World}{q:Lex}{ln:Int}{tl:Tok}{ps ss:List Value}{pn sn:Nat}{news:Led}(ok:LexOk q news)(lt:AllLt q.CC news){c:Addr}{o:Obj}(hc:(c,o)∈news):∀p∈lexLed w q ln tl ps pn ss sn,p.1≠c:=fun p hp=>by
 have h0:c<q.CC:=allLt_all lt _ hc
 have o1:=ok.o1
 have o2:=ok.o2
 have o3:=ok.o3
 have o4:=ok.o4
 have o5:=ok.o5
 have o6:=ok.o6
 have o7:=ok.o7
 have o8:=ok.o8
 have a1:=Nat.lt_trans h0 o1
 have a2:=Nat.lt_trans a1 o2
 have a3:=Nat.lt_trans a2 o3
 have a4:=Nat.lt_trans a3 o4
 have a5:=Nat.lt_trans a4 o5
 have a6:=Nat.lt_trans a5 o6
 have a7:=Nat.lt_trans a6 o7
 have a8:=Nat.lt_trans a7 o8
 simp only[lexLed,List.mem_cons,List.not_mem_nil,or_false] at hp
 rcases hp with rfl|rfl|rfl|rfl|rfl|rfl|rfl|rfl|rfl
 ·exact Nat.ne_of_gt a7
 ·exact Nat.ne_of_gt a6
 ·exact Nat.ne_of_gt a8
 ·exact Nat.ne_of_gt a2
 ·exact Nat.ne_of_gt a5
 ·exact Nat.ne_of_gt a4
 ·exact Nat.ne_of_gt a3
 ·exact Nat.ne_of_gt h0
 ·exact Nat.ne_of_gt a1
theorem LexOk.sub {q:Lex}{news news':Led}(ok:LexOk q news)(h:∀p∈news',∃r∈news,r.1=p.1):LexOk q news' where
 c1:=ok.c1
 c2:=ok.c2
 c3:=ok.c3
 o1:=ok.o1
 o2:=ok.o2
 o3:=ok.o3
 o4:=ok.o4
 o5:=ok.o5
 o6:=ok.o6
 o7:=ok.o7
 o8:=ok.o8
 n1:=fun p hp=>let ⟨r,hr,e⟩:=h p hp;e▸ok.n1 r hr
 n2:=fun p hp=>let ⟨r,hr,e⟩:=h p hp;e▸ok.n2 r hr
 n3:=fun p hp=>let ⟨r,hr,e⟩:=h p hp;e▸ok.n3 r hr
theorem getD_nums' {nums:List Nat}{i:Nat}(h:i<nums.length):(nums.map fun(n:Nat)=>(n:Int)).getD i 0=((nums.getD i 0:Nat):Int):=by
 rw[List.getD_eq_getElem?_getD,List.getD_eq_getElem?_getD,List.getElem?_map,List.getElem?_eq_getElem h]
 rfl
theorem LexOk.more {q:Lex}{news extra:Led}(ok:LexOk q news)(h:∀p∈extra,p.1≠q.D/\p.1≠q.PB/\p.1≠q.SG):LexOk q (extra++news):={ ok with
 n1:=fun p hp=>(List.mem_append.mp hp).elim (fun a=>(h p a).1) (ok.n1 p)
 n2:=fun p hp=>(List.mem_append.mp hp).elim (fun a=>(h p a).2.1) (ok.n2 p)
 n3:=fun p hp=>(List.mem_append.mp hp).elim (fun a=>(h p a).2.2) (ok.n3 p) }
theorem tok_small:∀(cs:List Nat),(tokGo cs).2.length<=cs.length/\(tokGo cs).2.count 10<=cs.count 10:=by
 have hq:∀(k:Nat) (cs acc:List Nat),cs.length<=k->(qGo cs acc).2.length<=cs.length/\(qGo cs acc).2.count 10<=cs.count 10:=fun k=>by
  induction k with
  |zero=>intro cs acc h;rw[List.length_eq_zero_iff.mp (Nat.le_zero.mp h)];exact⟨Nat.le_refl _,Nat.le_refl _⟩
  |succ k ih=>
   intro cs acc h
   match cs,h with
   | [],_=>exact⟨Nat.le_refl _,Nat.le_refl _⟩
   |c::r,h=>
    have hr:r.length<=k:=by simp only[List.length_cons] at h;(walk_at "O")
    have cc:r.count 10<=(c::r).count 10:=by rw[List.count_cons];(walk_at "O")
    rw[q_eq]
    split
    ·exact⟨by simp,cc⟩
    split
    ·match r,hr,cc with
     | [],_,_=>exact⟨Nat.zero_le _,Nat.zero_le _⟩
     |d::r',hr,cc=>
      have a:=ih r' (acc++[d]) (by simp only[List.length_cons] at hr;(walk_at "O"))
      have cc':r'.count 10<=(d::r').count 10:=by rw[List.count_cons];(walk_at "O")
      simp only[List.length_cons]
      exact⟨by(walk_at "O"),by(walk_at "O")⟩
    ·have a:=ih r (acc++[c]) hr
     simp only[List.length_cons]
     exact⟨by(walk_at "O"),by(walk_at "O")⟩
 have hb:∀(k:Nat) (cs acc:List Nat),cs.length<=k->(bGo cs acc).2.length<=cs.length/\(bGo cs acc).2.count 10<=cs.count 10:=fun k=>by
  induction k with
  |zero=>intro cs acc h;rw[List.length_eq_zero_iff.mp (Nat.le_zero.mp h)];exact⟨Nat.le_refl _,Nat.le_refl _⟩
  |succ k ih=>
   intro cs acc h
   match cs,h with
   | [],_=>exact⟨Nat.le_refl _,Nat.le_refl _⟩
   |c::r,h=>
    have hr:r.length<=k:=by simp only[List.length_cons] at h;(walk_at "O")
    have cc:r.count 10<=(c::r).count 10:=by rw[List.count_cons];(walk_at "O")
    rw[b_eq]
    split
    ·exact⟨by simp,cc⟩
    split
    ·match r,hr,cc with
     | [],_,_=>exact⟨Nat.zero_le _,Nat.zero_le _⟩
     |d::r',hr,cc=>
      have a:=ih r' (acc++[d]) (by simp only[List.length_cons] at hr;(walk_at "O"))
      have cc':r'.count 10<=(d::r').count 10:=by rw[List.count_cons];(walk_at "O")
      simp only[List.length_cons]
      exact⟨by(walk_at "O"),by(walk_at "O")⟩
    ·have a:=ih r (acc++[c]) hr
     simp only[List.length_cons]
     exact⟨by(walk_at "O"),by(walk_at "O")⟩
 intro cs
 induction cs with
 |nil=>exact⟨Nat.le_refl _,Nat.le_refl _⟩
 |cons c r ih=>
  have cc:r.count 10<=(c::r).count 10:=by rw[List.count_cons];(walk_at "O")
  rw[tok_eq]
  split
  ·simp only[List.length_cons];exact⟨by(walk_at "O"),by(walk_at "O")⟩
  split
  ·have a:=hq r.length r [] (Nat.le_refl _)
   simp only[List.length_cons];exact⟨by(walk_at "O"),by(walk_at "O")⟩
  split
  ·match r,cc with
   | [],_=>exact⟨Nat.zero_le _,Nat.zero_le _⟩
   |d::r',cc=>
    have a:=hb r'.length r' [d] (Nat.le_refl _)
    have cc':r'.count 10<=(d::r').count 10:=by rw[List.count_cons];(walk_at "O")
    simp only[List.length_cons]
    exact⟨by(walk_at "O"),by(walk_at "O")⟩
  ·have a:=hb r.length r [c] (Nat.le_refl _)
   simp only[List.length_cons];exact⟨by(walk_at "O"),by(walk_at "O")⟩
theorem LexOk.moreR {q:Lex}{news extra:Led}(ok:LexOk q news)(h:∀p∈extra,p.1≠q.D/\p.1≠q.PB/\p.1≠q.SG):LexOk q (news++extra):={ ok with
 n1:=fun p hp=>(List.mem_append.mp hp).elim (ok.n1 p) (fun a=>(h p a).1)
 n2:=fun p hp=>(List.mem_append.mp hp).elim (ok.n2 p) (fun a=>(h p a).2.1)
 n3:=fun p hp=>(List.mem_append.mp hp).elim (ok.n3 p) (fun a=>(h p a).2.2) }
theorem off1_all {D:Addr}:∀{l:List (Addr×Obj)},Off1 D l->∀p∈l,p.1≠D
 | [],_,p,h=>nomatch h
 |q::l,h,p,hp=>by
  rcases List.mem_cons.mp hp with rfl|hp
  ·exact fun e=>h.1 e
  ·exact off1_all h.2 p hp
theorem drop_get {α:Type}{l:List α}{j:Nat}{a:α}(h:l[j]? =some a):l.drop j=a::l.drop (j+1):=by
 obtain⟨hj,e⟩:=List.getElem?_eq_some_iff.mp h
 rw[List.drop_eq_getElem_cons hj,e]
theorem perm3 {α:Type}{a b c:α}{l r:List α}:∀p∈l++(a::b::c::r),p∈a::b::c::(l++r):=subL [[a],[b],[c],l] [0,1,2,3] [3,0,1,2] rfl r
theorem perm3' {α:Type}{a b c:α}{l r:List α}:∀p∈a::b::c::(l++r),p∈l++(a::b::c::r):=subL [l,[a],[b],[c]] [0,1,2,3] [1,2,3,0] rfl r
theorem perm4 {α:Type}{a:α}{l r:List α}:∀p∈l++(a::r),p∈a::(l++r):=subL [[a],l] [0,1] [1,0] rfl r
theorem lex_off3 {w:World}{q:Lex}{ln:Int}{tl:Tok}{ps ss:List Value}{pn sn:Nat}{R:Led}{I C D:Addr}{oI oC oD:Obj}(h:∀p∈lexLed w q ln tl ps pn ss sn++R,p.1≠I/\p.1≠C/\p.1≠D):∀p∈[(I,oI),(C,oC),(D,oD)],p.1≠q.D/\p.1≠q.PB/\p.1≠q.SG:=fun p hp=>by
 have a:=h (q.D,_) (List.mem_append_left _ (.tail _ (.head _)))
 have b:=h (q.PB,_) (List.mem_append_left _ (.tail _ (.tail _ (.head _))))
 have c:=h (q.SG,_) (List.mem_append_left _ (.tail _ (.tail _ (.tail _ (.tail _ (.tail _ (.tail _ (.tail _ (.tail _ (.head _))))))))))
 simp only[List.mem_cons,List.not_mem_nil,or_false] at hp
 rcases hp with rfl|rfl|rfl
 ·exact⟨Ne.symm a.1,Ne.symm b.1,Ne.symm c.1⟩
 ·exact⟨Ne.symm a.2.1,Ne.symm b.2.1,Ne.symm c.2.1⟩
 ·exact⟨Ne.symm a.2.2,Ne.symm b.2.2,Ne.symm c.2.2⟩
theorem lex_off1 {w:World}{q:Lex}{ln:Int}{tl:Tok}{ps ss:List Value}{pn sn:Nat}{R:Led}{D:Addr}{oD:Obj}(h:∀p∈lexLed w q ln tl ps pn ss sn++R,p.1≠D):∀p∈[(D,oD)],p.1≠q.D/\p.1≠q.PB/\p.1≠q.SG:=fun p hp=>by
 rw[List.mem_singleton.mp hp]
 exact⟨Ne.symm (h (q.D,_) (List.mem_append_left _ (.tail _ (.head _)))),Ne.symm (h (q.PB,_) (List.mem_append_left _ (.tail _ (.tail _ (.head _))))),Ne.symm (h (q.SG,_) (List.mem_append_left _ (.tail _ (.tail _ (.tail _ (.tail _ (.tail _ (.tail _ (.tail _ (.tail _ (.head _)))))))))))⟩
theorem lex_off_all {w:World}{q:Lex}{ln ln':Int}{tl tl':Tok}{ps ss ps' ss':List Value}{pn sn pn' sn':Nat}{R:Led}{P:Addr->Prop}(h:∀p∈lexLed w q ln tl ps pn ss sn++R,P p.1):∀p∈lexLed w q ln' tl' ps' pn' ss' sn'++R,P p.1:=fun p hp=>by
 rcases List.mem_append.mp hp with hp|hp
 ·simp only[lexLed,List.mem_cons,List.not_mem_nil,or_false] at hp
  rcases hp with rfl|rfl|rfl|rfl|rfl|rfl|rfl|rfl|rfl
  ·have z:=h (q.X,_) (List.mem_append_left _ (.head _));exact z
  ·have z:=h (q.D,_) (List.mem_append_left _ (.tail _ (.head _)));exact z
  ·have z:=h (q.PB,_) (List.mem_append_left _ (.tail _ (.tail _ (.head _))));exact z
  ·have z:=h (q.SF,_) (List.mem_append_left _ (.tail _ (.tail _ (.tail _ (.head _)))));exact z
  ·have z:=h (q.SD,_) (List.mem_append_left _ (.tail _ (.tail _ (.tail _ (.tail _ (.head _))))));exact z
  ·have z:=h (q.RF,_) (List.mem_append_left _ (.tail _ (.tail _ (.tail _ (.tail _ (.tail _ (.head _)))))));exact z
  ·have z:=h (q.RC,_) (List.mem_append_left _ (.tail _ (.tail _ (.tail _ (.tail _ (.tail _ (.tail _ (.head _))))))));exact z
  ·have z:=h (q.CC,_) (List.mem_append_left _ (.tail _ (.tail _ (.tail _ (.tail _ (.tail _ (.tail _ (.tail _ (.head _)))))))));exact z
  ·have z:=h (q.SG,_) (List.mem_append_left _ (.tail _ (.tail _ (.tail _ (.tail _ (.tail _ (.tail _ (.tail _ (.tail _ (.head _))))))))));exact z
 ·exact h p (List.mem_append_right _ hp)
theorem lex_off_all2 {w:World}{q:Lex}{ln ln':Int}{tl tl':Tok}{ps ss ps' ss':List Value}{pn sn pn' sn':Nat}{R R':Led}{P:Addr->Prop}(h:∀p∈lexLed w q ln tl ps pn ss sn++R,P p.1)(hR:∀p∈R',∃r∈R,r.1=p.1):∀p∈lexLed w q ln' tl' ps' pn' ss' sn'++R',P p.1:=fun p hp=>by
 rcases List.mem_append.mp hp with hp|hp
 ·exact lex_off_all (R:=R) h p (List.mem_append_left _ hp)
 ·obtain⟨r,hr,e⟩:=hR p hp
  rw[<-e];exact h r (List.mem_append_right _ hr)
theorem lex_offP {w:World}{q:Lex}{ln ln':Int}{tl tl':Tok}{ps ss ps' ss':List Value}{pn sn pn' sn':Nat}{P:Addr->Prop}(h:∀p∈lexLed w q ln tl ps pn ss sn,P p.1):∀p∈lexLed w q ln' tl' ps' pn' ss' sn',P p.1:=fun p hp=>
 lex_off_all (R:=[]) (P:=P) (fun r hr=>h r (by rw[List.append_nil] at hr;exact hr)) p (List.mem_append_left _ hp)
end Uc
end
section
namespace Uc
noncomputable def bodyS (x:Stmt):List Stmt:=@PySem.Stmt.casesOn (fun e=>List Stmt) x (fun j i h g f e d c b a=>[]) (fun j i h g f e d c b a=>[]) (fun k j i h g f e d c b a=>[]) (fun b a=>[]) (fun b a=>[]) (fun c b a=>[]) (fun g f e d c b a=>[]) (fun d c b a=>[]) (fun e d c b a=>[]) (fun e d c b a=>c) (fun e d c b a=>[]) (fun d c b a=>[]) (fun d c b a=>c) (fun c b a=>[]) (fun c b a=>[]) (fun c b a=>[]) (fun c b a=>[]) (fun e d c b a=>[]) (fun e d c b a=>[]) (fun c b a=>[]) (fun b a=>[]) (fun d c b a=>[]) (fun b a=>[]) (fun b a=>[]) (fun b a=>[]) (fun a=>[]) (fun a=>[]) (fun a=>[])
noncomputable def fbS (o:Option Stmt)(i:Nat):Option Stmt:=o.bind fun s=>(bodyS s)[i]?
noncomputable def lc0:Stmt:=by
 refine(fun(_:Uc.fbS (Uc.fbS (Uc.fbS (Uc.fbS (some ls16) 1) 0) 0) 0=some (.Assign ?a ?b ?c))=>.Assign ?a ?b ?c) ?h
 case h=>exact rfl
noncomputable def lc1:Stmt:=by
 refine(fun(_:Uc.fbS (Uc.fbS (Uc.fbS (Uc.fbS (some ls16) 1) 0) 0) 1=some (.Expr ?a ?b))=>.Expr ?a ?b) ?h
 case h=>exact rfl
noncomputable def ld0:Stmt:=by
 refine(fun(_:Uc.fbS (Uc.fbS (Uc.fbS (Uc.fbS (some ls16) 1) 0) 12) 0=some (.Assign ?a ?b ?c))=>.Assign ?a ?b ?c) ?h
 case h=>exact rfl
noncomputable def ld1:Stmt:=by
 refine(fun(_:Uc.fbS (Uc.fbS (Uc.fbS (Uc.fbS (some ls16) 1) 0) 12) 1=some (.If ?a ?b ?c ?d))=>.If ?a ?b ?c ?d) ?h
 case h=>exact rfl
noncomputable def ld2:Stmt:=by
 refine(fun(_:Uc.fbS (Uc.fbS (Uc.fbS (Uc.fbS (some ls16) 1) 0) 12) 2=some (.If ?a ?b ?c ?d))=>.If ?a ?b ?c ?d) ?h
 case h=>exact rfl
noncomputable def ld3:Stmt:=by
 refine(fun(_:Uc.fbS (Uc.fbS (Uc.fbS (Uc.fbS (some ls16) 1) 0) 12) 3=some (.If ?a ?b ?c ?d))=>.If ?a ?b ?c ?d) ?h
 case h=>exact rfl
noncomputable def ld4:Stmt:=by
 refine(fun(_:Uc.fbS (Uc.fbS (Uc.fbS (Uc.fbS (some ls16) 1) 0) 12) 4=some (.If ?a ?b ?c ?d))=>.If ?a ?b ?c ?d) ?h
 case h=>exact rfl
noncomputable def lb0:Stmt:=by
 refine(fun(_:(Uc.fbS (Uc.fbS (Uc.fbS (some ls16) 1) 0) 0)=some (.For ?a ?b [lc0,lc1] ?d ?e))=>.For ?a ?b [lc0,lc1] ?d ?e) ?h
 case h=>exact rfl
noncomputable def lb1:Stmt:=by
 refine(fun(_:(Uc.fbS (Uc.fbS (Uc.fbS (some ls16) 1) 0) 1)=some (.Assign ?a ?b ?c))=>.Assign ?a ?b ?c) ?h
 case h=>exact rfl
noncomputable def lb2:Stmt:=by
 refine(fun(_:(Uc.fbS (Uc.fbS (Uc.fbS (some ls16) 1) 0) 2)=some (.Assign ?a ?b ?c))=>.Assign ?a ?b ?c) ?h
 case h=>exact rfl
noncomputable def lb3:Stmt:=by
 refine(fun(_:(Uc.fbS (Uc.fbS (Uc.fbS (some ls16) 1) 0) 3)=some (.Assign ?a ?b ?c))=>.Assign ?a ?b ?c) ?h
 case h=>exact rfl
noncomputable def lb4:Stmt:=by
 refine(fun(_:(Uc.fbS (Uc.fbS (Uc.fbS (some ls16) 1) 0) 4)=some (.Assign ?a ?b ?c))=>.Assign ?a ?b ?c) ?h
 case h=>exact rfl
noncomputable def lb5:Stmt:=by
 refine(fun(_:(Uc.fbS (Uc.fbS (Uc.fbS (some ls16) 1) 0) 5)=some (.Assign ?a ?b ?c))=>.Assign ?a ?b ?c) ?h
 case h=>exact rfl
noncomputable def lb6:Stmt:=by
 refine(fun(_:(Uc.fbS (Uc.fbS (Uc.fbS (some ls16) 1) 0) 6)=some (.If ?a ?b ?c ?d))=>.If ?a ?b ?c ?d) ?h
 case h=>exact rfl
noncomputable def lb7:Stmt:=by
 refine(fun(_:(Uc.fbS (Uc.fbS (Uc.fbS (some ls16) 1) 0) 7)=some (.If ?a ?b ?c ?d))=>.If ?a ?b ?c ?d) ?h
 case h=>exact rfl
noncomputable def lb8:Stmt:=by
 refine(fun(_:(Uc.fbS (Uc.fbS (Uc.fbS (some ls16) 1) 0) 8)=some (.Assign ?a ?b ?c))=>.Assign ?a ?b ?c) ?h
 case h=>exact rfl
noncomputable def lb9:Stmt:=by
 refine(fun(_:(Uc.fbS (Uc.fbS (Uc.fbS (some ls16) 1) 0) 9)=some (.If ?a ?b ?c ?d))=>.If ?a ?b ?c ?d) ?h
 case h=>exact rfl
noncomputable def lb10:Stmt:=by
 refine(fun(_:(Uc.fbS (Uc.fbS (Uc.fbS (some ls16) 1) 0) 10)=some (.Assign ?a ?b ?c))=>.Assign ?a ?b ?c) ?h
 case h=>exact rfl
noncomputable def lb11:Stmt:=by
 refine(fun(_:(Uc.fbS (Uc.fbS (Uc.fbS (some ls16) 1) 0) 11)=some (.If ?a ?b ?c ?d))=>.If ?a ?b ?c ?d) ?h
 case h=>exact rfl
noncomputable def lb12:Stmt:=by
 refine(fun(_:(Uc.fbS (Uc.fbS (Uc.fbS (some ls16) 1) 0) 12)=some (.If ?a [ld0,ld1,ld2,ld3,ld4] ?c ?d))=>.If ?a [ld0,ld1,ld2,ld3,ld4] ?c ?d) ?h
 case h=>exact rfl
noncomputable def lb13:Stmt:=by
 refine(fun(_:(Uc.fbS (Uc.fbS (Uc.fbS (some ls16) 1) 0) 13)=some (.Assign ?a ?b ?c))=>.Assign ?a ?b ?c) ?h
 case h=>exact rfl
noncomputable def lk0:Stmt:=by
 refine(fun(_:(Uc.fbS (Uc.fbS (some ls16) 1) 0)=some (.If ?a [lb0,lb1,lb2,lb3,lb4,lb5,lb6,lb7,lb8,lb9,lb10,lb11,lb12,lb13] ?c ?d))=>.If ?a [lb0,lb1,lb2,lb3,lb4,lb5,lb6,lb7,lb8,lb9,lb10,lb11,lb12,lb13] ?c ?d) ?h
 case h=>exact rfl
noncomputable def lr0:Stmt:=by
 refine(fun(_:(Uc.fbS (some ls16) 0)=some (.Assign ?a ?b ?c))=>.Assign ?a ?b ?c) ?h
 case h=>exact rfl
noncomputable def lr1:Stmt:=by
 refine(fun(_:(Uc.fbS (some ls16) 1)=some (.For ?a ?b [lk0] ?d ?e))=>.For ?a ?b [lk0] ?d ?e) ?h
 case h=>exact rfl
noncomputable def lr:Stmt:=by
 refine(fun(_:ls16=.For ?a ?b [lr0,lr1] ?d ?e)=>.For ?a ?b [lr0,lr1] ?d ?e) ?h
 case h=>exact rfl
theorem ls16_eq:ls16=lr:=by rfl
end Uc
end
section
namespace Uc
noncomputable def stepQ (s:List (List Nat)×List Nat):List (List Nat)×List Nat:=(s.1.tail++[s.2++s.1.headD []],s.2++s.1.headD [])
noncomputable def iterQ:Nat->List (List Nat)×List Nat->List (List Nat)×List Nat
 |0,s=>s
 |n+1,s=>stepQ (iterQ n s)
theorem iterQ_len (s:List (List Nat)×List Nat)(h:0<s.1.length):∀n,(iterQ n s).1.length=s.1.length
 |0=>rfl
 |n+1=>by
  show((iterQ n s).1.tail++[_]).length=_
  rw[List.length_append,List.length_tail,iterQ_len s h n]
  show s.1.length-1+1=_
  omega
end Uc
namespace Uc
noncomputable def plainL (hl ol f g:Nat):List Nat:=(List.replicate f (List.replicate (hl-1) 32++[9])).flatten++(List.replicate g (List.replicate (ol-1) 32++[9])).flatten
end Uc
namespace Uc
noncomputable def costL (T sm:List Nat):List Int:=(List.range sm.length).map fun i=>cst (T.getD i 0) (sm.getD i 0)
noncomputable def bsdL (T sm:List Nat):List Int:=(List.range sm.length).map fun i=>cst (T.getD i 0) (sm.getD (if i=0 then sm.length-1 else i-1) 0)
end Uc
end
section
namespace Uc
open PyProof.Rows.LCg
noncomputable def geN (sz:List Nat)(k:Nat):Nat:=(sz.filter fun x=>decide (k<=x)).length
noncomputable def waysN (sz:List Nat):Nat->List Nat
 |0=>[1]
 |k+1=>List.zipWith (fun a b=>a+geN sz (k+1)*b) (waysN sz k++[0]) (0::waysN sz k)
theorem ways_s (sz:List Nat)(k:Nat):waysN sz (k+1)=List.zipWith (fun a b=>a+geN sz (k+1)*b) (waysN sz k++[0]) (0::waysN sz k):=rfl
theorem ways_len (sz:List Nat):∀k,(waysN sz k).length=k+1
 |0=>rfl
 |k+1=>by rw[ways_s,List.length_zipWith,List.length_append,List.length_cons,ways_len sz k];simp[ways_len sz k]
noncomputable def asI (l:List Nat):List Int:=l.map fun(n:Nat)=>(n:Int)
theorem getD_asI (l:List Nat)(k:Nat):(asI l).getD k 0=((l.getD k 0:Nat):Int):=by
 rw[List.getD_eq_getElem?_getD,List.getD_eq_getElem?_getD,asI,List.getElem?_map]
 cases l[k]? <;>rfl
theorem offAll {D:Addr}:∀{l:Led},Off1 D l->∀p∈l,p.1≠D
 | [],_,p,hp=>(nomatch hp)
 |q::l,h,p,hp=>by
  rcases List.mem_cons.mp hp with rfl|hp
  ·exact h.1
  ·exact offAll h.2 p hp
section
variable (w:World)(p:Program)(loose:List Str)(mean:ExcName->Option Value)(mg mb:Str->Option Value)
theorem due_c (news:List (Addr×Obj))(l:Addr)(vs:List Value)(cnt:Nat)(sz:List Nat)(t last:Nat)(tt:Tok)(hv:IntsAre vs (asI sz))(hne:sz.getLast? =some last)(hsz:sz.length<=10)(hx:∀x∈sz,x<=10)(ht:t<=last)(hl:AllLt l news):
  Con w p loose mean mg mb 239 16 60 [.ref l,.int (t:Int) tt] ((l,listOf vs.toArray cnt)::news) (fun _=>True) (fun v n'=>∃a t1 t2,v=.ref a/\n'=(a,{ cls:=Value.type "tuple",data:=Data.seq #[Value.int (((waysN sz last++[0]).getD t 0:Nat):Int) t1,Value.int (((sz.length-1)*(waysN sz last++[0]).getD t 0+(waysN sz last++[0]).getD (t+1) 0:Nat):Int) t2] })::(l,listOf vs.toArray cnt)::news):=by
 dsimp only[Con,Pm]
 k_fill
 (set_option tactic.hygienic true in intros)
 rename_i hret
 have hvl:vs.length=sz.length:=by rw[intsAre_len hv];exact List.length_map ..
 have hsz0:0<sz.length:=by
  cases sz with
  |nil=>cases hne
  |cons a b=>exact Nat.succ_pos _
 refine wpAny_call ?_
 k_dflt (refine' code_defC ?k1 ?k2 ?k3 ?k4 ?k5 ?kA ?kF ?kK ?k6 ?k7 ?k8 ?k9 ?kB ?kD ?_ ?c2 ?c3 ?c4;(case kA=>exact rfl);(case kF=>exact rfl);(case kK=>assumption);(case k1=>k_asm);(case k2=>k_asm);(case k3=>k_asm);(case k4=>k_asm);(case k5=>k_asm);(case k6=>k_is);(case k7=>k_is);(case k8=>ktr_room);(case k9=>exact BindsTo.of_eq rfl);(case kB=>exact rfl);(case kD=>decide+kernel);(case c2=>exact rfl);(case c3=>exact rfl);(case c4=>exact rfl);k_whole;intro g' L' h' tk' cells' FG' F' N' Y' B' X' T' l1;(try k_lt l1);k_cells Y';(try simp only[List.cons_append,List.nil_append] at N');(try dsimp only);(try k_lift B');(try k_fold))
 repeat' (first|(walk_at "P")|(walk_at "V";(fail_if_success (with_reducible show wpAny _ _ (execs (PySem.Stmt.For _ _ _ _ ⟨184,_,_,_⟩::_) _) _ _ _));walk_at "T"))
 (try dsimp only)
 rename Fr _ _ _ _=>F9
 rename News _ _ _ _=>N9
 rename (_=Data.cell _)=>d1
 (refine Uc.ex1 (nameO d1 (show _=Data.cell none from rfl)) fun o1=>Uc.an2 fun e1q d2=>?_;subst e1q)
 clear d1
 rename (_=Data.cell (bindC _ _ _ _))=>dm
 (refine Uc.ex1 (nameO dm (show _=Data.cell none from rfl)) fun om=>Uc.an2 fun e1q d3=>?_;subst e1q)
 clear dm
 rename (_/\_/\_/\AllLt _ news)=>hlt9
 have hlL:l≠L'+1/\l≠L'+2/\∀p∈news,p.1≠L'+1/\p.1≠L'+2/\p.1≠l:=by
  rename (l<L'/\AllLt L' news)=>q
  have q1:l<L':=q.1
  refine⟨Nat.ne_of_lt (Nat.lt_succ_of_lt q1),Nat.ne_of_lt (Nat.lt_succ_of_lt (Nat.lt_succ_of_lt q1)),fun p hp=>⟨Nat.ne_of_lt (Nat.lt_succ_of_lt (allLt_all q.2 p hp)),Nat.ne_of_lt (Nat.lt_succ_of_lt (Nat.lt_succ_of_lt (allLt_all q.2 p hp))),Nat.ne_of_lt (allLt_all hl p hp)⟩⟩
 walk_at "H"
 refine wpAny_execs_cons (for_cell (h₀:=g') (σ:=Addr×List Value×Nat×Obj) (c:=L'+1) (fun c=>(c.1,listOf c.2.1.toArray c.2.2.1)::(L'+2,c.2.2.2)::(l,listOf vs.toArray cnt)::news) (fun c=>[(ofString "ways",.ref c.1),(ofString "sizes",.ref l),(ofString "turn",.int (t:Int) tt)]) (fun i c=>IntsAre c.2.1 (asI (waysN sz i))/\(∃v,c.2.2.2.data=.cell v)/\∀p∈(L'+2,c.2.2.2)::(l,listOf vs.toArray cnt)::news,p.1≠c.1) last 1 ((last:Int)+1) rfl rfl rfl rfl ?_ (by intro _;rfl) (by passes_own))
 walk_at "X"
 have eL:(asI sz).getD (-1+((asI sz).length:Int)).toNat 0=(last:Int):=by
  have e:(-1+((asI sz).length:Int)).toNat=sz.length-1:=by unfold asI;rw[List.length_map];omega
  rw[e,List.getD_eq_getElem?_getD,asI,List.getElem?_map, <-List.getLast?_eq_getElem?,hne];rfl
 have hl10:last<=10:=hx last (List.mem_of_getLast? hne)
 rename IsRange _ _ _ _ _ _ _ _=>hR9
 rw[eL] at hR9
 rename News _ _ _ _=>N8
 rename Fr _ _ _ _=>F8
 refine Uc.ei8 _ _ _ _ _ ((_,[Value.int 1 tk'],0,om)) o1 none ⟨rfl,hR9,rsmall (by omega) (by omega) (by omega) (by omega) (by omega) (by omega),?rs,F8,News.sub N8 ?sub,d2,?ne0,⟨rfl,rfl,rfl,trivial⟩,⟨.cons _ _ .nil,⟨none,d3⟩,?ne1⟩,?turn,?done⟩
 case rs=>
  unfold Builtin.Range.rangeSize
  rw[if_pos (by decide)]
  split<;>omega
 case sub=>exact(by walk_at "I")
 case ne0=>
  intro q hq
  dsimp only at hq
  rcases List.mem_cons.mp hq with rfl|hq
  ·exact Nat.ne_of_gt hlt9.2.1
  rcases List.mem_cons.mp hq with rfl|hq
  ·exact Nat.succ_ne_self _
  rcases List.mem_cons.mp hq with rfl|hq
  ·exact hlL.1
  ·exact(hlL.2.2 q hq).1
 case ne1=>
  intro q hq
  dsimp only at hq
  rcases List.mem_cons.mp hq with rfl|hq
  ·exact Nat.ne_of_lt hlt9.1
  rcases List.mem_cons.mp hq with rfl|hq
  ·exact Nat.ne_of_lt hlt9.2.2.1
  ·exact Nat.ne_of_lt (allLt_all hlt9.2.2.2 q hq)
 case turn=>
  clear N8 F8
  intro i ti w14q u h tk I o oc hi w15q hne9 hcI dc F N;obtain⟨W1,ws,wc,om⟩:=w14q;(refine Uc.ah3 w15q fun hI w16q hW=>?_;clear w15q);(refine Uc.ex1 w16q fun v dm=>?_;clear w16q)
  dsimp only at hI dm hW hne9 F N ⊢
  have hwl:ws.length=i+1:=by rw[intsAre_len hI];unfold asI;rw[List.length_map,ways_len]
  repeat' (first|(walk_at "P")|(walk_at "V";first|((with_reducible show wpAny _ _ (eval (Expr.ListComp _ _ _ _) _) _ _ _);(k_dflt (refine Uc.comp_list (by rfl) (by decide) (by rfl) (by decide) (by rfl) ?_ (by intro _;rfl))))|(walk_at "T")))
  refine Uc.ei8 _ _ _ l vs cnt ((L'+1,oc)::(I,o)::(W1,listOf ws.toArray wc)::(L'+2,om)::(l,listOf vs.toArray cnt)::news) (fun j ys nw=>nw=(L'+1,oc)::(I,o)::(W1,listOf ws.toArray wc)::(L'+2,om)::(l,listOf vs.toArray cnt)::news/\IntsAre ys (asI ((sz.take j).filter fun x=>decide (i+1<=x)))) ⟨rfl,rfl,by assumption,by assumption,by k_mem,by omega,⟨rfl,.nil⟩,?T,?fin⟩
  case T=>
   intro g j vj ys nw I2 oI2 C2 oC2 D2 m3 h2 tk2 E2 hj hvj w17q _ hoC hmj F N off w18q;(refine Uc.ah2 w17q fun e1q hS=>?_;clear w17q;subst e1q);(refine Uc.ah3 w18q fun d1 d2 d3=>?_;clear w18q)
   have hjs:j<sz.length:=by omega
   obtain⟨tj,rfl⟩:∃tj,vj=.int (sz[j]:Int) tj:=by
    rcases intsAre_get hv j with ⟨a,_⟩|⟨n,t,a,b⟩
    ·rw[a] at hvj;cases hvj
    ·rw[a] at hvj
     unfold asI at b
     rw[List.getElem?_map,List.getElem?_eq_getElem hjs] at b
     have e:((sz[j]:Nat):Int)=n:=Option.some.inj b
     exact⟨t,by rw[e];exact(Option.some.inj hvj).symm⟩
   have hk:(sz.take (j+1)).filter (fun x=>decide (i+1<=x))=if i+1<=sz[j] then(sz.take j).filter (fun x=>decide (i+1<=x))++[sz[j]] else(sz.take j).filter (fun x=>decide (i+1<=x)):=by
    rw[List.take_add_one,List.getElem?_eq_getElem hjs,List.filter_append]
    by_cases q:i+1<=sz[j]<;>simp[q]
   refine wpAny_tests_one ?_
   walk_at "X"
   ·rename (1+(i:Int)<=_)=>hle
    have hle':i+1<=sz[j]:=by omega
    rw[if_pos hle'] at hk
    exact TurnC.mk _ ‹_› ‹_› (fun _ h=>h) off ⟨by k_mem,rfl,by rw[hk,asI,List.map_append];exact IntsAre.append hS (.cons _ _ .nil)⟩
   ·rename (¬ 1+(i:Int)<=_)=>hle
    have hle':¬ i+1<=sz[j]:=by omega
    rw[if_neg hle'] at hk
    exact TurnC.mk _ ‹_› ‹_› (fun _ h=>h) off ⟨by k_mem,rfl,by rw[hk];exact hS⟩
  case fin=>
   clear F N
   rintro D h tk ys nw ⟨rfl,hS⟩ F N0 o1
   rw[hvl,List.take_of_length_le (Nat.le_refl _)] at hS
   have hyl:ys.length=geN sz (i+1):=by rw[intsAre_len hS];exact List.length_map ..
   have hg10:geN sz (i+1)<=10:=Nat.le_trans (List.length_filter_le _ _) hsz
   have N:=News.sub (b:=(D,listOf ys.toArray ys.length)::(L'+1,oc)::(I,o)::(W1,listOf ws.toArray wc)::(L'+2,om)::(l,listOf vs.toArray cnt)::news) N0 (fun _ h=>h)
   clear N0
   walk_at "X"
   rename Fr _ _ _ _=>F8
   rename News _ _ _ _=>N8
   refine kun_lenL (k:=(geN sz (i+1):Int)) (News.isList N8 (.head _)) (by simp only[List.size_toArray];rw[hyl]) (by omega) ?_
   have N9:=News.sub (b:=(L'+2,om)::(L'+1,oc)::(I,o)::(W1,listOf ws.toArray wc)::(l,listOf vs.toArray cnt)::news) N8 (by walk_at "I")
   refine storeX_C F8 N9 (c:=L'+2) rfl (.head fun q hq=>?_) dm (fun h' o' F N d'=>?_)
   ·rcases List.mem_cons.mp hq with rfl|hq
    ·exact Nat.ne_of_lt (Nat.lt_succ_self _)
    rcases List.mem_cons.mp hq with rfl|hq
    ·exact((hne9 (L'+2,om) (.tail _ (.head _))).2).symm
    rcases List.mem_cons.mp hq with rfl|hq
    ·exact(hW (L'+2,om) (.head _)).symm
    rcases List.mem_cons.mp hq with rfl|hq
    ·exact hlL.2.1
    ·exact(hlL.2.2 q hq).2.1
   clear F8 N8 N9
   repeat' (first|(walk_at "P")|(walk_at "V";(fail_if_success (with_reducible show wpAny _ _ (call (Value.type "zip") _) _ _ _));first|((with_reducible show wpAny _ _ (exec (PySem.Stmt.Assign _ (Expr.ListComp _ _ _ _) _) _) _ _ _);(k_dflt (refine' Uc.comp_zipA ?sw ?a ?b ?c ?d ?e ?e2 ?ne ?hy ?hp ?_ (by intro _;rfl);(case sw=>with_unfolding_all rfl);(case a=>rfl);(case b=>decide);(case c=>rfl);(case d=>decide);(case e=>rfl);(case e2=>rfl);(case ne=>decide);(case hy=>rfl);(case hp=>rfl))))|(walk_at "T")))
   (try dsimp only)
   rename Fr _ _ _ _=>kF
   rename News _ _ _ _=>kN
   refine zipK (xs:=ws++[Value.int 0 tk]) (zs:=[Value.int 0 (tk+1)]++ws) (o1:={ cls:=Value.type "list",data:=Data.seq (ws++[Value.int 0 tk]).toArray }) (o2:={ cls:=Value.type "list",data:=Data.seq ([Value.int 0 (tk+1)]++ws).toArray }) kF kN (.tail _ (.tail _ (.head _))) (.head _) rfl rfl rfl rfl ?_
   intro hz z TI TO i1 i2 zF zN zS zA zW
   refine Uc.ei13 g' _ z TI TO i1 i2 _ _ _ _ _ (fun j ys=>ys.length=j/\IntsAre ys ((List.zipWith (fun a b=>a+((geN sz (i+1):Nat):Int)*b) (asI (waysN sz i++[0])) (asI (0::waysN sz i))).take j)) ⟨rfl,rfl,zF,zN,zS,zA,zW,by rw[List.length_append];show _+1<=_;omega,⟨rfl,.nil⟩,?TZ,?finZ⟩
   case TZ=>
    clear kF kN zF zN zS zA zW
    intro g j vx vz ys2 I2 oI2 C2 oC2 D2 m3 h2 tk2 E2 hxj hzj w20q hoC hmx hmz F N off w21q;(refine Uc.ah2 w20q fun hyl2 hS2=>?_;clear w20q);(refine Uc.ah3 w21q fun e1 e2 e3=>?_;clear w21q)
    have hA:IntsAre (ws++[Value.int 0 tk]) (asI (waysN sz i++[0])):=by
     rw[asI,List.map_append];exact IntsAre.append hI (.cons _ _ .nil)
    have hB:IntsAre ([Value.int 0 (tk+1)]++ws) (asI (0::waysN sz i)):=.cons _ _ hI
    obtain⟨a,ta,rfl,ea⟩:∃a t,vx=.int a t/\(asI (waysN sz i++[0]))[j]? =some a:=by
     rcases intsAre_get hA j with ⟨q,_⟩|⟨n,t,q,b⟩
     ·rw[q] at hxj;cases hxj
     ·rw[q] at hxj;exact⟨n,t,(Option.some.inj hxj).symm,b⟩
    obtain⟨b,tb,rfl,eb⟩:∃b t,vz=.int b t/\(asI (0::waysN sz i))[j]? =some b:=by
     rcases intsAre_get hB j with ⟨q,_⟩|⟨n,t,q,b⟩
     ·rw[q] at hzj;cases hzj
     ·rw[q] at hzj;exact⟨n,t,(Option.some.inj hzj).symm,b⟩
    have ez:(List.zipWith (fun a b=>a+((geN sz (i+1):Nat):Int)*b) (asI (waysN sz i++[0])) (asI (0::waysN sz i)))[j]? =some (a+((geN sz (i+1):Nat):Int)*b):=by
     rw[List.getElem?_zipWith,ea,eb]
    walk_at "X"
    ·rw[List.length_append,hyl2];rfl
    ·rw[List.take_add_one,ez]
     exact IntsAre.append hS2 (.cons _ _ .nil)
   case finZ=>
    clear kF kN zF zN zS zA zW
    rintro D3 h3 tk3 ys3 ⟨hyl3,hS3⟩ F N o3
    walk_at "X"
    rename Fr _ _ _ _=>F4
    rename News _ _ _ _=>N4
    have hmin:min (ws++[Value.int 0 tk]).length ([Value.int 0 (tk+1)]++ws).length=i+2:=by simp[hwl]
    rw[hmin,List.take_of_length_le (by rw[List.length_zipWith];unfold asI;simp[ways_len])] at hS3
    have eS:List.zipWith (fun a b=>a+((geN sz (i+1):Nat):Int)*b) (asI (waysN sz i++[0])) (asI (0::waysN sz i))=asI (waysN sz (i+1)):=by
     show _=asI (List.zipWith (fun a b=>a+geN sz (i+1)*b) (waysN sz i++[0]) (0::waysN sz i))
     unfold asI
     rw[List.zipWith_map,List.map_zipWith]
     congr 1<;>(funext a b;push_cast;rfl)
    have hoff:=offAll o3
    rw[eS] at hS3
    exact TurnF.next (D3,ys3,ys3.length,o') F4 N4 (by walk_at "I") dc (fun q hq=>by
     dsimp only at hq
     rcases List.mem_cons.mp hq with rfl|hq
     ·exact⟨(hoff (L'+1,oc) (by k_mem)).symm,(hoff (I,o) (by k_mem)).symm⟩
     rcases List.mem_cons.mp hq with rfl|hq
     ·exact hne9 (L'+2,om) (.tail _ (.head _))
     ·exact hne9 q (.tail _ (.tail _ hq))) ⟨rfl,rfl,rfl,trivial⟩ ⟨hS3,⟨_,d'⟩,fun q hq=>by
     dsimp only at hq
     rcases List.mem_cons.mp hq with rfl|hq
     ·exact hoff (L'+2,o') (by k_mem)
     rcases List.mem_cons.mp hq with rfl|hq
     ·exact hoff (l,listOf vs.toArray cnt) (by k_mem)
     ·exact hoff q (by repeat' (first|exact hq|apply List.Mem.tail))⟩
 case done=>
  clear N8 F8
  intro w23q u h tk oc v w24q dc F N0 hne9;obtain⟨W1,ws,wc,om⟩:=w23q;(refine Uc.ah3 w24q fun hI w25q hW=>?_;clear w24q);(refine Uc.ex1 w25q fun v2 dm=>?_;clear w25q)
  dsimp only at hI dm hW hne9 F N0 ⊢
  have hwl:ws.length=last+1:=by rw[intsAre_len hI];unfold asI;rw[List.length_map,ways_len]
  have N:=News.sub (b:=(W1,listOf ws.toArray wc)::(L'+1,oc)::(L'+2,om)::(l,listOf vs.toArray cnt)::news) N0 (by walk_at "I")
  have hWn:∀q∈(L'+1,oc)::(L'+2,om)::(l,listOf vs.toArray cnt)::news,q.1≠W1:=fun q hq=>by
   rcases List.mem_cons.mp hq with rfl|hq
   ·exact(hne9 (W1,listOf ws.toArray wc) (.head _)).symm
   ·exact hW q hq
  clear N0
  repeat' (first|(walk_at "P")|(walk_at "V";first|((with_reducible show wpAny _ _ (callWith _ (Value.builtin _) _ _ _) _ _ _);dsimp only;first|((with_reducible show wpAny _ _ (callWith _ (Value.builtin "list.append") _ _ _) _ _ _);refine callWith_method1 ?_)|((with_reducible show wpAny _ _ (callWith _ (Value.builtin "str.join") _ _ _) _ _ _);refine callWith_method1 ?_))|(walk_at "T")))
  rename News _ _ _ _=>N8
  refine kun_lenL (k:=(sz.length:Int)) (News.isList N8 (by k_mem)) (by simp only[List.size_toArray];rw[hvl]) (by omega) ?_
  walk_at "X"
  rename News _ _ _ _=>kN9
  have e1:asI (waysN sz last)++[0]=asI (waysN sz last++[0]):=by unfold asI;rw[List.map_append];rfl
  have e2:((t:Int)+1).toNat=t+1:=by omega
  have e3:∀A B:Nat,((sz.length:Int)-1)*(A:Int)+(B:Int)=(((sz.length-1)*A+B:Nat):Int):=fun A B=>by
   obtain⟨n,hn⟩:∃n,sz.length=n+1:=⟨sz.length-1,by omega⟩
   rw[hn]
   push_cast
   congr 2
   omega
  rw[e1,e2,Int.toNat_natCast,getD_asI,getD_asI,e3] at kN9
  exact hret _ _ _ _ ⟨_,_,_,rfl,rfl⟩ ‹_› (News.sub kN9 (by walk_at "I"))
end
end Uc
end
section
namespace Uc
open PyProof.Rows.LCg
noncomputable def sizesUp (cs:List Nat)(i:Nat):List Nat:=((List.range i).map fun a=>List.replicate (cs.getD a 0) a).flatten
theorem sizesUp_succ (cs:List Nat)(i:Nat):sizesUp cs (i+1)=sizesUp cs i++List.replicate (cs.getD i 0) i:=by
 unfold sizesUp
 rw[List.range_succ,List.map_append,List.flatten_append]
 simp
theorem getD_le {cs:List Nat}{m:Nat}(h:∀c∈cs,c<=m)(i:Nat):cs.getD i 0<=m:=by
 rw[List.getD_eq_getElem?_getD]
 cases e:cs[i]? with
 |none=>exact Nat.zero_le _
 |some c=>exact h c (List.mem_of_getElem? e)
theorem sizesUp_len {cs:List Nat}{m:Nat}(h:∀c∈cs,c<=m)(i:Nat):(sizesUp cs i).length<=i*m:=by
 induction i with
 |zero=>exact Nat.zero_le _
 |succ i ih=>
  rw[sizesUp_succ,List.length_append,List.length_replicate,Nat.succ_mul]
  exact Nat.add_le_add ih (getD_le h i)
section
variable (w:World)(p:Program)(loose:List Str)(mean:ExcName->Option Value)(mg mb:Str->Option Value)
theorem l1_seg11 {h₀:Heap}{L fa:Addr}{cd:Value}{s:Shared}{Q:Flow->Shared->Prop}{E:Value->Shared->Prop}{m:Str->Option Value}{A₀:Around}{base:Heap}{outer:List Env}{dp un:Nat}{gd:Option (List Code)}(B:Below A₀ base outer h₀)(hpre:CodeHd base 213 209)(hdp:dp+30<recursionLimit)(hun:un+120<cLine)(X:(K w.params).In h₀)(T:Top p loose mean mg mb h₀)
  {o4:Obj} {T8:Addr} {led:Led} {vs:List Value} {cs:List Nat} (d4:o4.data=.cell (some (.ref T8))) (hI:IntsAre vs (cs.map fun(n:Nat)=>(n:Int))) (hl:cs.length<=10) (hc:∀c∈cs,c<=10)
  (F:Fr h₀ L s.heap m) (N:News h₀ L s.heap ((L+4,o4)::(T8,{ cls:=Value.type "tuple",data:=Data.seq vs.toArray })::led))
  (ret:∀h' tk' D zs,IntsAre zs ((sizesUp cs cs.length).map fun(n:Nat)=>(n:Int))->Fr h₀ L h' (fun y=>if y=ofString "sizes" then some (.ref D) else m y)->News h₀ L h' ((D,lst zs)::(L+4,o4)::(T8,{ cls:=Value.type "tuple",data:=Data.seq vs.toArray })::led)->(∀q∈(L+4,o4)::(T8,{ cls:=Value.type "tuple",data:=Data.seq vs.toArray })::led,q.1≠D)->Q .next { s with heap:=h',toks:=tk' }):
  wpAny (model Pm w) (lawA dp un gd outer L fa cd) (execs [ls14] (lawEnv L fa cd)) Q E s:=by
 revert X
 dsimp only[Pm]
 k_fill
 intro X
 unfold ls14
 dsimp only[lawEnv,lawA,lawCl]
 (refine Uc.letAE ?_;intro AA EE)
 have hvl:vs.length=cs.length:=by rw[intsAre_len hI,List.length_map]
 repeat' (first|(walk_at "P")|(walk_at "V";first|(((with_reducible show wpAny _ _ (call (Value.builtin "len") [Value.ref _]) _ _ _);refine kun_lenT (k:=((_:List Value).length:Int)) (News.isTup ‹_› (by k_mem)) (by simp only[List.size_toArray];rfl) (by omega) ?_))|((with_reducible show wpAny _ _ (exec (PySem.Stmt.Assign _ (Expr.ListComp _ _ _ _) _) _) _ _ _);(k_dflt (refine' Uc.comp_nestA ?sw ?a ?b ?c ?d ?e ?e2 ?ne ?hy ?hp ?_ (by intro _;rfl) (by intro _ _;rfl);(case sw=>with_unfolding_all rfl);(case a=>rfl);(case b=>decide);(case c=>rfl);(case d=>decide);(case e=>rfl);(case e2=>rfl);(case ne=>decide);(case hy=>rfl);(case hp=>rfl))))|(walk_at "T")))
 rename Fr _ _ _ _=>F1
 rename News _ _ _ _=>N1
 refine Uc.ei11 _ _ _ _ _ _ _ cs.length _ (fun i=>cs.getD i 0) (fun i j ys=>IntsAre ys ((sizesUp cs i++List.replicate j i).map fun(n:Nat)=>(n:Int))/\i<=10/\j<=10) ⟨rfl,rfl,F1,N1,by assumption,by rw[List.length_map],by omega,fun i _=>Nat.le_trans (getD_le hc i) (by decide),⟨.nil,by decide,by decide⟩,fun i ys hi hR=>⟨by rw[sizesUp_succ,List.replicate_zero,List.append_nil];exact hR.1,by omega,by decide⟩,fun i j ys hR=>?hl,?T1,?T2,?fin⟩
 case hl=>
  rw[intsAre_len hR.1,List.length_map,List.length_append,List.length_replicate]
  have:=sizesUp_len hc i
  have:=hR.2.1
  have:=hR.2.2
  omega
 case T1=>
  intro g i ys I oI C oC D m₂ h tk tx E' hi hoC hm2 F N off w1q;(refine Uc.ah3 w1q fun d1 d2 d3=>?_;clear w1q)
  walk_at "X"
  all_goals first|assumption|(rename IsRange _ _ _ _ _ _ _ _=>hr;rw[Int.toNat_natCast,getD_nums' hi] at hr;exact hr)
 case T2=>
  intro g i j ys I oI C oC D m₂ h tk tx ty E' hi hj hR hoC hmx hmy F N off w1q;(refine Uc.ah3 w1q fun d1 d2 d3=>?_;clear w1q)
  obtain⟨hR1,hR2,hR3⟩:=hR
  have hj9:j<cs.getD i 0:=hj
  have hj8:=getD_le hc i
  walk_at "X"
  ·rw[List.replicate_succ', <-List.append_assoc,List.map_append];exact IntsAre.append hR1 (.cons _ _ .nil)
 case fin=>
  intro D h tk ys hR F N o1
  walk_at "X"
  exact ret _ _ _ _ (by have:=hR.1;rw[List.replicate_zero,List.append_nil] at this;exact this) ‹_› ‹_› (off1_all o1)
end
end Uc
end
section
namespace Uc
open PyProof.Rows.LCg
noncomputable abbrev St:=List (List Nat)×List Nat×List Nat
noncomputable def blockS (n:Nat)(s:St):St:=((iterQ n (s.1,s.2.1)).1.tail,(iterQ n (s.1,s.2.1)).2++(iterQ n (s.1,s.2.1)).1.headD [],((iterQ n (s.1,s.2.1)).2++(iterQ n (s.1,s.2.1)).1.headD []).map lowC)
noncomputable def stK (sr:List Nat)(t:Nat)(s:St):Nat->St
 |0=>s
 |k+1=>if t<=sr.getD k 0 then blockS (sr.getD k 0-t) (stK sr t s k) else stK sr t s k
noncomputable def quT (sr:List Nat)(q:List (List Nat)):Nat->List (List Nat)
 |0=>q
 |t+1=>(stK sr t (quT sr q t,[],[]) sr.length).1
noncomputable def duF (sr:List Nat)(k t:Nat):Nat:=(waysN (sr.take (k+1)) (sr.getD k 0)++[0]).getD t 0
noncomputable def duG (sr:List Nat)(k t:Nat):Nat:=k*duF sr k t+(waysN (sr.take (k+1)) (sr.getD k 0)++[0]).getD (t+1) 0
noncomputable def fewOk (n2 t f g spc gr:Nat)(x1:WS)(T sm:List Nat):Bool:=
 levL T sm ((gr:Int)-1+(t:Int))==(gr:Int)&& !wsEq x1 (wsOf (mkS ((sm++[102]).map ledC)))&&wsEq x1 (wsOf (mkS ((List.replicate (f+g) 105).map ledC)))==((spc:Int)==0)&&decide (f+g<=n2)&&wsEq x1 (wsOf (mkS ((List.replicate (n2-(f+g)) 102++List.replicate (f+g) 105).map ledC)))==decide ((spc:Int)<2)
noncomputable def spcOf (hl ol f g:Nat):Nat:=f*(hl-1)+g*min (ol-1) 1
noncomputable def chkOk (hl ol t f g:Nat)(x1 x2 x3:WS)(lett T sm:List Nat):Bool:=
 T.all (fun c=>c==102||(c==105||(c==70||c==73)))&&decide (f<=50)&&decide (g<=50)&&decide (T.length<=100)&&decide (1<=sm.length)&&wsEq x1 x2&& !wsEq x1 x3&&
 levL lett sm (t:Int)==2*((x2.n:Int)-(lett.length:Int))&&(costL T sm).sum==((f*hl:Nat):Int)&&(bsdL T sm).sum==4*((spcOf hl ol f g:Nat):Int)+(f:Int)*(2-(hl:Int))&&
 (decide (10<=x2.n)||fewOk x2.n t f g (spcOf hl ol f g) (f*hl) x1 T sm)
noncomputable def walkOk (n:Nat)(s:List (List Nat)×List Nat):Bool:=(List.range (n+1)).all (fun i=>decide ((iterQ i s).2.length<=100)&&(iterQ i s).1.all (fun x=>decide (x.length<=100)))
noncomputable def blkOk (hl ol:Nat)(sr:List Nat)(t k:Nat)(s:St):Bool:=
 decide (0<s.1.length)&&decide (s.1.length<=100)&&decide (s.2.2.length<=100)&&walkOk (sr.getD k 0-t) (s.1,s.2.1)&&
 chkOk hl ol t (duF sr k t) (duG sr k t) (wsOf (mkS ((blockS (sr.getD k 0-t) s).2.2.map ledC))) (wsOf (mkS (plainL hl ol (duF sr k t) (duG sr k t)))) (wsOf (mkS (s.2.2.map ledC))) s.2.2 (blockS (sr.getD k 0-t) s).2.1 (blockS (sr.getD k 0-t) s).2.2
noncomputable def rndOk (hl ol:Nat)(sr:List Nat)(t:Nat)(s:St):Bool:=(List.range sr.length).all fun k=>decide (sr.getD k 0<t)||blkOk hl ol sr t k (stK sr t s k)
noncomputable def wordsOf (hx ox:List Nat)(sr:List Nat):List (List Nat):=hx::List.replicate (sr.sum+sr.length-1) ox
noncomputable def lawOk (sr hx ox:List Nat):Bool:=
 (List.range 3).all (fun t=>rndOk hx.length ox.length sr t (quT sr (wordsOf hx ox sr) t,[],[]))&&(List.range 3).all (fun m=>sr.any (fun x=>decide (m<x))||(quT sr (wordsOf hx ox sr) (m+1)).isEmpty)
noncomputable def srs:List (List Nat):=[[2,2],[0,0,0],[0,0,1],[0,0,2],[0,1,1],[0,1,2],[1,1,1]]
noncomputable def hxs:List (List Nat):=[headOf 0,headOf 1]
noncomputable def oxs:List (List Nat):=[otherOf 0,otherOf 2,otherOf 4]
theorem law_22:(hxs.all fun hx=>oxs.all fun ox=>lawOk [2,2] hx ox)=true:=by decide+kernel
theorem law_000:(hxs.all fun hx=>oxs.all fun ox=>lawOk [0,0,0] hx ox)=true:=by decide+kernel
theorem law_001:(hxs.all fun hx=>oxs.all fun ox=>lawOk [0,0,1] hx ox)=true:=by decide+kernel
theorem law_002:(hxs.all fun hx=>oxs.all fun ox=>lawOk [0,0,2] hx ox)=true:=by decide+kernel
theorem law_011:(hxs.all fun hx=>oxs.all fun ox=>lawOk [0,1,1] hx ox)=true:=by decide+kernel
theorem law_012:(hxs.all fun hx=>oxs.all fun ox=>lawOk [0,1,2] hx ox)=true:=by decide+kernel
theorem law_111:(hxs.all fun hx=>oxs.all fun ox=>lawOk [1,1,1] hx ox)=true:=by decide+kernel
theorem law_all {sr hx ox:List Nat}(h1:sr∈srs)(h2:hx∈hxs)(h3:ox∈oxs):lawOk sr hx ox=true:=by
 have get:∀sr,(hxs.all fun hx=>oxs.all fun ox=>lawOk sr hx ox)=true->lawOk sr hx ox=true:=fun sr h=>List.all_eq_true.mp (List.all_eq_true.mp h hx h2) ox h3
 simp only[srs,List.mem_cons,List.not_mem_nil,or_false] at h1
 rcases h1 with rfl|rfl|rfl|rfl|rfl|rfl|rfl
 ·exact get _ law_22
 ·exact get _ law_000
 ·exact get _ law_001
 ·exact get _ law_002
 ·exact get _ law_011
 ·exact get _ law_012
 ·exact get _ law_111
set_option genInjectivity false in
set_option genSizeOf false in
structure Blk (hl ol:Nat) (sr:List Nat) (t k:Nat) (s:St) (T sm:List Nat) (f g:Nat) (x1 x2 x3:WS):Prop where
 q0:0<s.1.length
 q1:s.1.length<=100
 l1:s.2.2.length<=100
 wk:∀i,i<=sr.getD k 0-t->(iterQ i (s.1,s.2.1)).2.length<=100/\∀x∈(iterQ i (s.1,s.2.1)).1,x.length<=100
 ltr:∀c∈T,Ltr c
 f9:f<=50
 g9:g<=50
 T9:T.length<=100
 s1:1<=sm.length
 e1:wsEq x1 x2=true
 e2:wsEq x1 x3=false
 lv:levL s.2.2 sm (t:Int)=2*((x2.n:Int)-(s.2.2.length:Int))
 ct:(costL T sm).sum=((f*hl:Nat):Int)
 bs:(bsdL T sm).sum=4*((spcOf hl ol f g:Nat):Int)+(f:Int)*(2-(hl:Int))
 fw:x2.n<10->fewOk x2.n t f g (spcOf hl ol f g) (f*hl) x1 T sm=true
theorem blk_get {hl ol:Nat}{sr:List Nat}{t k:Nat}{s:St}{T sm:List Nat}{f g:Nat}(h:blkOk hl ol sr t k s=true)(eT:(blockS (sr.getD k 0-t) s).2.1=T)(es:(blockS (sr.getD k 0-t) s).2.2=sm)(ef:duF sr k t=f)(eg:duG sr k t=g):
  Blk hl ol sr t k s T sm f g (wsOf (mkS (sm.map ledC))) (wsOf (mkS (plainL hl ol f g))) (wsOf (mkS (s.2.2.map ledC))):=by
 subst eT es ef eg
 unfold blkOk chkOk walkOk at h
 simp only[Bool.and_eq_true,Bool.or_eq_true,Bool.not_eq_true',decide_eq_true_eq,List.all_eq_true,beq_iff_eq,List.mem_range] at h
 obtain⟨⟨⟨⟨a1,a2⟩,a3⟩,a4⟩,⟨⟨⟨⟨⟨⟨⟨⟨⟨b1,b2⟩,b3⟩,b4⟩,b5⟩,b6⟩,b7⟩,b8⟩,b9⟩,b10⟩,b11⟩:=h
 exact⟨a1,a2,a3,fun i hi=>a4 i (by omega),fun c hc=>b1 c hc,b2,b3,b4,b5,b6,b7,b8,b9,b10,fun hn=>b11.resolve_left (by omega)⟩
theorem blk_parts {hl ol:Nat}{sr:List Nat}{t k:Nat}{s:St}(h:blkOk hl ol sr t k s=true):
  ∃(x1:List Nat) (qs1:List (List Nat)) (tot T sm:List Nat) (f g:Nat),iterQ (sr.getD k 0-t) (s.1,s.2.1)=(x1::qs1,tot)/\T=tot++x1/\sm=T.map lowC/\blockS (sr.getD k 0-t) s=(qs1,T,sm)/\duF sr k t=f/\duG sr k t=g/\tot.length<=100/\x1.length<=100/\qs1.length<=100/\
   Blk hl ol sr t k s T sm f g (wsOf (mkS (sm.map ledC))) (wsOf (mkS (plainL hl ol f g))) (wsOf (mkS (s.2.2.map ledC))):=by
 have hB:=blk_get h rfl rfl rfl rfl
 have hl9:=iterQ_len (s.1,s.2.1) hB.q0 (sr.getD k 0-t)
 have hw:=hB.wk _ (Nat.le_refl _)
 dsimp only at hl9
 obtain⟨⟨q,tot⟩,e⟩:∃r,iterQ (sr.getD k 0-t) (s.1,s.2.1)=r:=⟨_,rfl⟩
 rw[e] at hl9 hw
 cases q with
 |nil=>have:=hB.q0;rw[<-hl9] at this;exact absurd this (Nat.lt_irrefl 0)
 |cons x1 qs1=>
  have eb:blockS (sr.getD k 0-t) s=(qs1,tot++x1,(tot++x1).map lowC):=by unfold blockS;rw[e];rfl
  exact⟨x1,qs1,tot,_,_,_,_,e,rfl,rfl,eb,rfl,rfl,hw.1,hw.2 x1 (.head _),Nat.le_trans (Nat.le_succ _) (Nat.le_trans (Nat.le_of_eq hl9) hB.q1),blk_get h (by rw[eb]) (by rw[eb]) rfl rfl⟩
theorem few_get {n2 t f g spc gr:Nat}{x1:WS}{T sm:List Nat}(h:fewOk n2 t f g spc gr x1 T sm=true):
  levL T sm ((gr:Int)-1+(t:Int))=(gr:Int)/\wsEq x1 (wsOf (mkS ((sm++[102]).map ledC)))=false/\wsEq x1 (wsOf (mkS ((List.replicate (f+g) 105).map ledC)))=((spc:Int)==0)/\f+g<=n2/\wsEq x1 (wsOf (mkS ((List.replicate (n2-(f+g)) 102++List.replicate (f+g) 105).map ledC)))=decide ((spc:Int)<2):=by
 unfold fewOk at h
 rw[Bool.and_eq_true,Bool.and_eq_true,Bool.and_eq_true,Bool.and_eq_true] at h
 obtain⟨⟨⟨⟨a,b⟩,c⟩,d⟩,e⟩:=h
 exact⟨eq_of_beq a,by rw[Bool.not_eq_true'] at b;exact b,eq_of_beq c,of_decide_eq_true d,eq_of_beq e⟩
end Uc
end
section
namespace Uc
open PyProof.Rows.LCg
theorem execs_app_wp {M:Model}{A:Around}{env:Env}{Q:Flow->Shared->Prop}{E:Value->Shared->Prop}{rest:List Stmt}{Γ:Ctx}(hΓ:Γ.In A)(l:List Stmt):∀(p:Pos) (s:Shared),
  Sem.wp M Γ (execs l env) (fun f _ s'=>match f with| .next=>wpAny M A (execs rest env) Q E s'|f=>Q f s') (fun e _ s'=>E e s') p s->Sem.wp M Γ (execs (l++rest) env) (fun f _ s'=>Q f s') (fun e _ s'=>E e s') p s:=by
 induction l with
 |nil=>
  intro p s h
  have h1:wpAny M A (execs rest env) Q E s:=h
  exact h1 Γ p hΓ
 |cons st l ih=>
  intro p s h
  rw[List.cons_append,execs_cons,Sem.wp_bind']
  rw[execs_cons,Sem.wp_bind'] at h
  refine Sem.wp_mono M Γ _ (fun f p' s' h'=>?_) (fun _ _ _ h'=>h') _ _ h
  cases f with
  |next=>exact ih p' s' h'
  |_=>exact h'
theorem execs_app {M:Model}{A:Around}{env:Env}{Q:Flow->Shared->Prop}{E:Value->Shared->Prop}{rest:List Stmt}(l:List Stmt){s:Shared}(h:wpAny M A (execs l env) (fun f s'=>match f with| .next=>wpAny M A (execs rest env) Q E s'|f=>Q f s') E s):wpAny M A (execs (l++rest) env) Q E s:=fun Γ p hΓ=>execs_app_wp hΓ l p s (h Γ p hΓ)
theorem pmA {α:Type}{c5 c6 c3 S R a1 a2 a3 a4:α}{l T:List α}:∀p∈l++(c5::(c3::(S::(c6::(R::(a1::(a2::(a3::(a4::(T)))))))))),p∈l++(c5::(c6::(c3::(S::(R::(a1::(a2::(a3::(a4::(T)))))))))):=subL [l,[c5],[c6],[c3],[S],[R],[a1],[a2],[a3],[a4]] [0,1,2,3,4,5,6,7,8,9] [0,1,3,4,2,5,6,7,8,9] rfl T
theorem pmB {α:Type}{c5 c3 S c6 R a1 a2 a3 a4:α}{l T:List α}:∀p∈l++(c5::(c6::(c3::(S::(R::(a1::(a2::(a3::(a4::(T)))))))))),p∈l++(c5::(c3::(S::(c6::(R::(a1::(a2::(a3::(a4::(T)))))))))):=subL [l,[c5],[c3],[S],[c6],[R],[a1],[a2],[a3],[a4]] [0,1,2,3,4,5,6,7,8,9] [0,1,4,2,3,5,6,7,8,9] rfl T
theorem pmC {α:Type}{n1 n2 n3 n4 c5 c6 c3 S R a1 a2 a3 a4:α}{l T:List α}:∀p∈R::(n1::(n2::(n3::(n4::(l++(c5::(c6::(c3::(S::(a1::(a2::(a3::(a4::(T)))))))))))))),p∈n1::(n2::(n3::(n4::(l++(c5::(c6::(c3::(S::(R::(a1::(a2::(a3::(a4::(T)))))))))))))):=subL [[n1],[n2],[n3],[n4],l,[c5],[c6],[c3],[S],[R],[a1],[a2],[a3],[a4]] [0,1,2,3,4,5,6,7,8,9,10,11,12,13] [9,0,1,2,3,4,5,6,7,8,10,11,12,13] rfl T
theorem pmD {α:Type}{p1 p2 p3 p4 R n1 n2 n3 n4 c5 c6 c3 S a1 a2 a3 a4:α}{l T:List α}:∀p∈n1::(n2::(n3::(n4::(p1::(p2::(p3::(p4::(a1::(a2::(a3::(a4::(c6::(l++(c5::(c3::(S::(R::(T)))))))))))))))))),p∈p1::(p2::(p3::(p4::(R::(n1::(n2::(n3::(n4::(l++(c5::(c6::(c3::(S::(a1::(a2::(a3::(a4::(T)))))))))))))))))):=subL [[p1],[p2],[p3],[p4],[R],[n1],[n2],[n3],[n4],l,[c5],[c6],[c3],[S],[a1],[a2],[a3],[a4]] [0,1,2,3,4,5,6,7,8,9,10,11,12,13,14,15,16,17] [5,6,7,8,0,1,2,3,14,15,16,17,11,9,10,12,13,4] rfl T
theorem pmE {α:Type}{n1 n2 n3 n4 p1 p2 p3 p4 a1 a2 a3 a4 c6 c5 c3 S R:α}{l T:List α}:∀p∈c5::(c6::(n1::(n2::(n3::(n4::(p1::(p2::(p3::(p4::(l++(c3::(S::(R::(T)))))))))))))),p∈n1::(n2::(n3::(n4::(p1::(p2::(p3::(p4::(a1::(a2::(a3::(a4::(c6::(l++(c5::(c3::(S::(R::(T)))))))))))))))))):=subL [[n1],[n2],[n3],[n4],[p1],[p2],[p3],[p4],[a1],[a2],[a3],[a4],[c6],l,[c5],[c3],[S],[R]] [0,1,2,3,4,5,6,7,8,9,10,11,12,13,14,15,16,17] [14,12,0,1,2,3,4,5,6,7,13,15,16,17] rfl T
theorem pmF {α:Type}{c5 c6 n1 n2 n3 n4 p1 p2 p3 p4 c3 S R:α}{l T:List α}:∀p∈n1::(n2::(n3::(n4::(p1::(p2::(p3::(p4::(c5::(c6::(l++(c3::(S::(R::(T)))))))))))))),p∈c5::(c6::(n1::(n2::(n3::(n4::(p1::(p2::(p3::(p4::(l++(c3::(S::(R::(T)))))))))))))):=subL [[c5],[c6],[n1],[n2],[n3],[n4],[p1],[p2],[p3],[p4],l,[c3],[S],[R]] [0,1,2,3,4,5,6,7,8,9,10,11,12,13] [2,3,4,5,6,7,8,9,0,1,10,11,12,13] rfl T
theorem pmG {α:Type}{n1 n2 n3 n4 p1 p2 p3 p4 c5 c6 c3 S R:α}{l T:List α}:∀p∈l++(c5::(c6::(c3::(S::(R::(n1::(n2::(n3::(n4::(T)))))))))),p∈n1::(n2::(n3::(n4::(p1::(p2::(p3::(p4::(c5::(c6::(l++(c3::(S::(R::(T)))))))))))))):=subL [[n1],[n2],[n3],[n4],[p1],[p2],[p3],[p4],[c5],[c6],l,[c3],[S],[R]] [0,1,2,3,4,5,6,7,8,9,10,11,12,13] [10,8,9,11,12,13,0,1,2,3] rfl T
theorem neD {h₀ h:Heap}{L a b:Addr}{oa ob:Obj}{l:Led}(N:News h₀ L h l)(ha:(a,oa)∈l)(hb:(b,ob)∈l)(hd:oa≠ob):a≠b:=fun e=>by
 have x:=(N _ ha).1
 have y:=(N _ hb).1
 dsimp only at x y
 rw[e,y] at x
 exact hd (Option.some.inj x).symm
theorem ws_off {w:World}{q:Lex}{ln:Int}{tl:Tok}{ps ss:List Value}{pn sn:Nat}{h₀ h:Heap}{L:Addr}{l:Led}{x:Str}{a:WsA}(N:News h₀ L h l)(hl:∀p∈lexLed w q ln tl ps pn ss sn,p∈l)(hw:∀p∈wsLed w x a,p∈l):∀p∈wsLed w x a,p.1≠q.D/\p.1≠q.PB/\p.1≠q.SG:=fun p hp=>by
 have m1:=hl (q.D,_) (.tail _ (.head _))
 have m2:=hl (q.PB,_) (.tail _ (.tail _ (.head _)))
 have m3:=hl (q.SG,_) (.tail _ (.tail _ (.tail _ (.tail _ (.tail _ (.tail _ (.tail _ (.tail _ (.head _)))))))))
 have mp:=hw p hp
 simp only[wsLed,List.mem_cons,List.not_mem_nil,or_false] at hp
 rcases hp with rfl|rfl|rfl|rfl
 ·exact⟨neD N mp m1 fun e=>(by have z:=congrArg Obj.cls e;cases z),neD N mp m2 fun e=>(by have z:=congrArg Obj.cls e;cases z),neD N mp m3 fun e=>(by have z:=congrArg Obj.cls e;cases z)⟩
 ·exact⟨neD N mp m1 fun e=>(by have z:=congrArg Obj.data e;injection z with z1 z2;exact absurd z2 (by decide)),neD N mp m2 fun e=>(by have z:=congrArg Obj.cls e;injection z with z;exact absurd z (by decide)),neD N mp m3 fun e=>(by have z:=congrArg Obj.cls e;injection z with z;exact absurd z (by decide))⟩
 ·exact⟨neD N mp m1 fun e=>(by have z:=congrArg Obj.cls e;injection z with z;exact absurd z (by decide)),neD N mp m2 fun e=>(by have z:=congrArg Obj.cls e;injection z with z;exact absurd z (by decide)),neD N mp m3 fun e=>(by have z:=congrArg Obj.cls e;injection z with z;exact absurd z (by decide))⟩
 ·exact⟨neD N mp m1 fun e=>(by have z:=congrArg Obj.cls e;injection z with z;exact absurd z (by decide)),neD N mp m2 fun e=>(by have z:=congrArg Obj.cls e;injection z with z;exact absurd z (by decide)),neD N mp m3 fun e=>(by have z:=congrArg Obj.cls e;injection z with z;exact absurd z (by decide))⟩
theorem ws_cell {w:World}{h₀ h:Heap}{L c:Addr}{o:Obj}{v:Option Value}{l:Led}{x:Str}{a:WsA}(N:News h₀ L h l)(hc:(c,o)∈l)(hd:o.data=.cell v)(hw:∀p∈wsLed w x a,p∈l):∀p∈wsLed w x a,p.1≠c:=fun p hp=>by
 have mp:=hw p hp
 simp only[wsLed,List.mem_cons,List.not_mem_nil,or_false] at hp
 rcases hp with rfl|rfl|rfl|rfl
 ·exact neD N mp hc fun e=>(by rw[<-e] at hd;cases hd)
 ·exact neD N mp hc fun e=>(by rw[<-e] at hd;cases hd)
 ·exact neD N mp hc fun e=>(by rw[<-e] at hd;cases hd)
 ·exact neD N mp hc fun e=>(by rw[<-e] at hd;cases hd)
theorem ws_notIt {w:World}{x:Str}{a:WsA}:∀p∈wsLed w x a,isIt p.2=false:=fun p hp=>by
 simp only[wsLed,List.mem_cons,List.not_mem_nil,or_false] at hp
 rcases hp with rfl|rfl|rfl|rfl<;>rfl
theorem LexOk.by {q:Lex}{R R':Led}(ok:LexOk q R)(h:∀p∈R',(∃r∈R,r.1=p.1)∨(p.1≠q.D/\p.1≠q.PB/\p.1≠q.SG)):LexOk q R':={ ok with
 n1:=fun p hp=>(h p hp).elim (fun⟨r,hr,e⟩=>e▸ok.n1 r hr) fun a=>a.1
 n2:=fun p hp=>(h p hp).elim (fun⟨r,hr,e⟩=>e▸ok.n2 r hr) fun a=>a.2.1
 n3:=fun p hp=>(h p hp).elim (fun⟨r,hr,e⟩=>e▸ok.n3 r hr) fun a=>a.2.2 }
theorem ws_mem {w:World}{x:Str}{a:WsA}{l:Led}:∀r∈wsLed w x a,r∈(a.a,instObj 189 a.d)::(a.d,Uc.wsDq w a x)::(a.P,Uc.wsPq a x)::(a.T,Uc.wsTq a)::l:=fun _ hr=>List.mem_append_left l hr
theorem off_ws {w:World}{x:Str}{a:WsA}{l:Led}{P:Addr->Prop}(h1:∀r∈wsLed w x a,P r.1)(h2:∀r∈l,P r.1):∀r∈(a.a,instObj 189 a.d)::(a.d,Uc.wsDq w a x)::(a.P,Uc.wsPq a x)::(a.T,Uc.wsTq a)::l,P r.1:=fun r hr=>(List.mem_append.mp (show r∈wsLed w x a++l from hr)).elim (h1 r) (h2 r)
theorem LexOk.all {q:Lex}{R:Led}(ok:LexOk q R):∀r∈R,r.1≠q.D/\r.1≠q.PB/\r.1≠q.SG:=fun r hr=>⟨ok.n1 r hr,ok.n2 r hr,ok.n3 r hr⟩
theorem LexOk.on {q:Lex}{R R':Led}(ok:LexOk q R)(h:∀r∈R',r.1≠q.D/\r.1≠q.PB/\r.1≠q.SG):LexOk q R':=ok.by fun p hp=>.inr (h p hp)
theorem levS_mk (a b:List Nat)(mx:Int):levS (mkS a) (mkS b) mx=levL a b mx:=by
 unfold levS mkS
 simp
theorem cons_off {P:Addr->Prop}{a:Addr×Obj}{l:Led}(h1:P a.1)(h2:∀r∈l,P r.1):∀r∈a::l,P r.1:=fun r hr=>(List.mem_cons.mp hr).elim (fun e=>e▸h1) (h2 r)
theorem pmW {α:Type}{a b:α}{l:List α}:∀p∈a::b::l,p∈b::a::l:=subL [[b],[a]] [0,1] [1,0] rfl l
theorem lex_cell {w:World}{q:Lex}{ln:Int}{tl:Tok}{ps ss:List Value}{pn sn:Nat}{h₀ h:Heap}{L c:Addr}{o:Obj}{l R:Led}(N:News h₀ L h l)(ok:LexOk q R)(hl:∀p∈lexLed w q ln tl ps pn ss sn,p∈l)(hc:(c,o)∈l)(hd:o.data=.cell none):∀p∈lexLed w q ln tl ps pn ss sn,p.1≠c:=fun p hp=>by
 have mp:=hl p hp
 simp only[lexLed,List.mem_cons,List.not_mem_nil,or_false] at hp
 rcases hp with rfl|rfl|rfl|rfl|rfl|rfl|rfl|rfl|rfl
 ·exact neD N mp hc fun e=>(by rw[<-e] at hd;cases hd)
 ·exact neD N mp hc fun e=>(by rw[<-e] at hd;cases hd)
 ·exact neD N mp hc fun e=>(by rw[<-e] at hd;cases hd)
 ·exact neD N mp hc fun e=>(by rw[<-e] at hd;cases hd)
 ·exact neD N mp hc fun e=>(by rw[<-e] at hd;cases hd)
 ·exact neD N mp hc fun e=>(by rw[<-e] at hd;cases hd)
 ·exact neD N mp hc fun e=>(by rw[<-e,ok.c1] at hd;cases hd)
 ·exact neD N mp hc fun e=>(by rw[<-e,ok.c3] at hd;cases hd)
 ·exact neD N mp hc fun e=>(by rw[<-e] at hd;cases hd)
theorem ws_ne {w:World}{x:Str}{a:WsA}{P:Addr->Prop}(h:∀p∈wsLed w x a,P p.1):P a.a/\P a.d/\P a.P/\P a.T:=⟨h (a.a,_) (.head _),h (a.d,_) (.tail _ (.head _)),h (a.P,_) (.tail _ (.tail _ (.head _))),h (a.T,_) (.tail _ (.tail _ (.tail _ (.head _))))⟩
theorem pmL {α:Type}{n1 n2 n3 n4 T R D c6 c5 c4 c3:α}{l:List α}:∀p∈n1::(n2::(n3::(n4::(R::(l++(T::(D::(c6::(c5::(c4::([c3]))))))))))),p∈n1::(n2::(n3::(n4::(l++(T::(R::(D::(c6::(c5::(c4::([c3]))))))))))):=subL [[n1],[n2],[n3],[n4],l,[T],[R],[D],[c6],[c5],[c4],[c3]] [0,1,2,3,4,5,6,7,8,9,10,11] [0,1,2,3,6,4,5,7,8,9,10,11] rfl []
theorem pmM {α:Type}{n1 n2 n3 n4 R T D c6 c5 c4 c3:α}{l:List α}:∀p∈n1::(n2::(n3::(n4::(c4::(l++(T::(R::(c6::(c5::([c3])))))))))),p∈n1::(n2::(n3::(n4::(R::(l++(T::(D::(c6::(c5::(c4::([c3]))))))))))):=subL [[n1],[n2],[n3],[n4],[R],l,[T],[D],[c6],[c5],[c4],[c3]] [0,1,2,3,4,5,6,7,8,9,10,11] [0,1,2,3,10,5,6,4,8,9,11] rfl []
theorem pmN {α:Type}{n1 n2 n3 n4 c4 T R c6 c5 c3:α}{l:List α}:∀p∈c4::(n4::(n1::(n2::(n3::(n4::(l++(T::(R::(c6::(c5::([c3]))))))))))),p∈n1::(n2::(n3::(n4::(c4::(l++(T::(R::(c6::(c5::([c3])))))))))):=subL [[n1],[n2],[n3],[n4],[c4],l,[T],[R],[c6],[c5],[c3]] [0,1,2,3,4,5,6,7,8,9,10] [4,3,0,1,2,3,5,6,7,8,9,10] rfl []
theorem fcons {α:Type}{P:α->Prop}{a:α}{l:List α}(h1:P a)(h2:∀r∈l,P r):∀r∈a::l,P r:=List.forall_mem_cons.mpr ⟨h1,h2⟩
theorem pmO {α:Type}{Z c4 t8 n1 n2 n3 n4 T R c6 c5 c3:α}{l:List α}:∀p∈l++(T::(c3::(n1::(n2::(n3::(n4::(Z::(R::(c6::([c5])))))))))),p∈Z::(c4::(t8::(n1::(n2::(n3::(n4::(l++(T::(R::(c6::(c5::([c3])))))))))))):=subL [[Z],[c4],[t8],[n1],[n2],[n3],[n4],l,[T],[R],[c6],[c5],[c3]] [0,1,2,3,4,5,6,7,8,9,10,11,12] [7,8,12,3,4,5,6,0,9,10,11] rfl []
theorem pmP {α:Type}{T c3 n1 n2 n3 n4 Z R c6 c5:α}{l:List α}:∀p∈l++(c5::(c6::(c3::(Z::(R::(T::(n1::(n2::(n3::([n4])))))))))),p∈l++(T::(c3::(n1::(n2::(n3::(n4::(Z::(R::(c6::([c5])))))))))):=subL [l,[T],[c3],[n1],[n2],[n3],[n4],[Z],[R],[c6],[c5]] [0,1,2,3,4,5,6,7,8,9,10] [0,10,9,2,7,8,1,3,4,5,6] rfl []
theorem pmQ {α:Type}{c5 c6 c3 Z R T n1 n2 n3 n4:α}{l:List α}:∀p∈l++(T::([c3])),p∈l++(c5::(c6::(c3::(Z::(R::(T::(n1::(n2::(n3::([n4])))))))))):=subL [l,[c5],[c6],[c3],[Z],[R],[T],[n1],[n2],[n3],[n4]] [0,1,2,3,4,5,6,7,8,9,10] [0,6,3] rfl []
end Uc
end
section
namespace Uc
open PyProof.Rows.LCg
theorem strsAre_cons {vs:List Value}{x:Str}{xs:List Str}(h:StrsAre vs (x::xs)):∃t ws,vs=.str x t::ws/\StrsAre ws xs:=by
 cases h with
 |cons a t h=>exact⟨t,_,rfl,h⟩
theorem perm6q {α:Type}{i:α}{l r:List α}:∀p∈(l++r)++[i],p∈l++(r++[i]):=fun p hp=>by rw[List.append_assoc] at hp;exact hp
section
variable (w:World)(p:Program)(loose:List Str)(mean:ExcName->Option Value)(mg mb:Str->Option Value)
theorem l1_in {h₀:Heap}{L fa:Addr}{cd:Value}{s:Shared}{Q:Flow->Shared->Prop}{E:Value->Shared->Prop}{u:Str->Option Value}{A₀:Around}{base:Heap}{outer:List Env}{dp un:Nat}{gd:Option (List Code)}(B:Below A₀ base outer h₀)(hpre:CodeHd base 213 209)(hdp:dp+30<recursionLimit)(hun:un+120<cLine)(hE:PassesOwn (model Pm w) (lawA dp un gd outer L fa cd) (lawEnv L fa cd) E)(X:(K w.params).In h₀)(T:Top p loose mean mg mb h₀)
  {S Ru:Addr} {o3 o5:Obj} {q:Lex} {LN:Int} {tl t0 tk1 tk2 th to tle:Tok} {pn sn kk t n:Nat} {ps ss zs:List Value} {sz:List Nat} {qs:List (List Nat)} {tot hx ox lett:List Nat} {vl vt:Value} {pa:WsA} {Tl:Led}
  (d3:o3.data=.cell (some (.ref q.X))) (d5:o5.data=.cell (some (.str (mkS tot) t0))) (hz:IntsAre zs (sz.map fun(n:Nat)=>(n:Int))) (hk:kk<sz.length) (hkt:sz.getD kk 0=t+n) (hm:t+n<=100) (hsl:sz.length<=100)
  (hps:StrsAre ps (qs.map mkS)) (hq0:0<qs.length) (hq1:qs.length<=100) (hb:∀i,i<=n->(iterQ i (qs,tot)).2.length<=100/\∀x∈(iterQ i (qs,tot)).1,x.length<=100)
  (ok:LexOk q ((L+5,o5)::(L+3,o3)::(S,lst zs)::Tl)) (h5:∀r∈lexLed w q LN tl ps pn ss sn++((L+3,o3)::(S,lst zs)::Tl),r.1≠L+5)
  (F:Fr h₀ L s.heap (fm u [(ofString "k",.int (kk:Int) tk1),(ofString "turn",.int (t:Int) tk2),(ofString "sizes",.ref S),(ofString "runs",.ref Ru),(ofString "head",.str (mkS hx) th),(ofString "other",.str (mkS ox) to),(ofString "last",vl),(ofString "text",vt),(ofString "letters",.str (mkS lett) tle),(ofString "past",.ref pa.a)])) (N:News h₀ L s.heap (lexLed w q LN tl ps pn ss sn++((L+5,o5)::(L+3,o3)::(S,lst zs)::Tl)))
  (ret:∀h' tk' u' ps' pn' o5' t0',o5'.data=.cell (some (.str (mkS (iterQ n (qs,tot)).2) t0'))->StrsAre ps' ((iterQ n (qs,tot)).1.map mkS)->Fr h₀ L h' (fm u' [(ofString "k",.int (kk:Int) tk1),(ofString "turn",.int (t:Int) tk2),(ofString "sizes",.ref S),(ofString "runs",.ref Ru),(ofString "head",.str (mkS hx) th),(ofString "other",.str (mkS ox) to),(ofString "last",vl),(ofString "text",vt),(ofString "letters",.str (mkS lett) tle),(ofString "past",.ref pa.a)])->News h₀ L h' (lexLed w q LN tl ps' pn' ss sn++((L+5,o5')::(L+3,o3)::(S,lst zs)::Tl))->Q .next { s with heap:=h',toks:=tk' }):
  wpAny (model Pm w) (lawA dp un gd outer L fa cd) (exec lb0 (lawEnv L fa cd)) Q E s:=by
 revert X
 dsimp only[Pm]
 k_fill
 intro X
 unfold lb0
 dsimp only[lawEnv,lawA,lawCl] at hE ⊢
 (refine Uc.letAX ?_;intro AA EE)
 (refine Uc.letF F ?_;clear F;intro NM F)
 walk_at "H"
 refine For_invV (hE:=hE) h₀ (by rfl) (by rfl) ?_
 have hzl:zs.length=sz.length:=by rw[intsAre_len hz,List.length_map]
 walk_at "X"
 rename Fr _ _ _ _=>F9
 rename News _ _ _ _=>N9
 rename IsRange _ _ _ _ _ _ _ _=>hr9
 rw[Int.toNat_natCast,getD_nums' hk,hkt,show((t+n:Nat):Int)-(t:Int)=(n:Int) by omega] at hr9
 refine iter_to (σ:=List Value×Nat×Obj) n (fun c=>lexLed w q LN tl c.1 c.2.1 ss sn++((L+5,c.2.2)::(L+3,o3)::(S,lst zs)::Tl)) (fun _=>[(ofString "k",.int (kk:Int) tk1),(ofString "turn",.int (t:Int) tk2),(ofString "sizes",.ref S),(ofString "runs",.ref Ru),(ofString "head",.str (mkS hx) th),(ofString "other",.str (mkS ox) to),(ofString "last",vl),(ofString "text",vt),(ofString "letters",.str (mkS lett) tle),(ofString "past",.ref pa.a)])
  (fun i c=>StrsAre c.1 ((iterQ i (qs,tot)).1.map mkS)/\∃t,c.2.2.data=.cell (some (.str (mkS (iterQ i (qs,tot)).2) t))) (ps,pn,o5) rfl hr9 rfl (by omega) F9 N9 ⟨rfl,rfl,rfl,rfl,rfl,rfl,rfl,rfl,rfl,rfl,trivial⟩ ⟨hps,_,d5⟩ ?turn ?done
 case done=>
  clear F9 N9
  refine fpLoooR fun ps' pn' o5'=>?_
  intro u' h tk hR F N
  obtain⟨hR1,t9,hR2⟩:=hR
  dsimp only at hR1 hR2 F N ⊢
  walk_at "X"
  exact ret _ _ _ _ _ _ _ hR2 hR1 F N
 case turn=>
  clear F9 N9
  intro i ti
  refine fpLoooR fun ps' pn' o5'=>?_
  intro u' h tk I o hi hR hne hit F N
  obtain⟨hR1,t9,d5'⟩:=hR
  dsimp only at hR1 d5' hne F N ⊢
  have hi1:=hb i (by omega)
  have hl9:=iterQ_len (qs,tot) hq0 i
  dsimp only at hl9
  obtain⟨x1,qs1,hx1⟩:∃x1 qs1,(iterQ i (qs,tot)).1=x1::qs1:=by
   cases e:(iterQ i (qs,tot)).1 with
   |nil=>rw[e] at hl9;simp at hl9;omega
   |cons a b=>exact⟨a,b,rfl⟩
  have hx9:x1.length<=100:=hi1.2 x1 (by rw[hx1];exact .head _)
  have hnx:iterQ (i+1) (qs,tot)=(qs1++[(iterQ i (qs,tot)).2++x1],(iterQ i (qs,tot)).2++x1):=by
   show stepQ (iterQ i (qs,tot))=_
   unfold stepQ
   rw[hx1];rfl
  obtain⟨T9,hT9⟩:∃T9,T9=(iterQ i (qs,tot)).2:=⟨_,rfl⟩
  have hT1:=hi1.1
  rw[<-hT9] at hnx d5' hT1
  rw[hx1,List.length_cons] at hl9
  rw[hx1] at hR1
  (refine Uc.ex2 (strsAre_cons hR1) fun tv ps9=>Uc.an2 fun e1q hps9=>?_;subst e1q)
  have hp9:=StrsAre.length hps9
  rw[List.length_map] at hp9
  have ok9:LexOk q (((L+5,o5')::(L+3,o3)::(S,lst zs)::Tl)++[(I,o)]):=LexOk.moreR (extra:=[(I,o)]) (ok.sub fun r hr=>by
   rcases List.mem_cons.mp hr with rfl|hr
   ·exact⟨_,.head _,rfl⟩
   ·exact⟨_,.tail _ hr,rfl⟩) (lex_off1 hne)
  rw[List.append_assoc] at N
  have e1:=mkS_len T9
  have e2:=mkS_len x1
  unfold lc0 lc1
  walk_at "X"
  (refine get_pushed w p loose mean mg mb (((L+5,o5')::(L+3,o3)::(S,lst zs)::Tl)++[(I,o)]) q LN tl (.str (mkS x1) tv) ps9 pn' ss sn (by omega) ok9 _ _ _ _ _ _ _ _ _ _ _ _ _ _ _ _ _ ‹_› ‹_› ‹_› ‹_› ‹_› (by first|assumption|rfl) ?pre (by walk_at "r") (by walk_at "u") ?_);(case pre=>first|exact trivial|assumption)
  first|refine kE1nv ?_|refine kE1vn ?_
  intro pn9 h' tk' F N
  have hU:UpdF (L+5) o5' (lexLed w q LN tl ps9 pn9 ss sn++((L+5,o5')::(L+3,o3)::(S,lst zs)::Tl++[(I,o)])) (fun o9=>lexLed w q LN tl ps9 pn9 ss sn++((L+5,o9)::(L+3,o3)::(S,lst zs)::Tl++[(I,o)])):=updF_front (.head fun r hr=>by
   rcases List.mem_append.mp hr with hr|hr
   ·exact h5 r (List.mem_append_right _ hr)
   ·rw[List.mem_singleton.mp hr]
    exact(hne (L+5,o5') (List.mem_append_right _ (.head _))).symm) (fun r hr=>lex_off_all (R:=(L+3,o3)::(S,lst zs)::Tl) (P:=fun a=>a≠L+5) h5 r (List.mem_append_left _ hr))
  repeat' (first|(walk_at "P")|(walk_at "V";first|((with_reducible show wpAny _ _ (storeName _ _ _) _ _ _);refine storeX_C ‹_› ‹_› (c:=L+5) rfl hU d5' (fun h9 o9 F9 N9 d9=>?_))|(walk_at "T")))
  rename Fr _ _ _ _=>F7
  rename News _ _ _ _=>N7
  rename (_=Data.cell (some (Value.str (mkS T9++mkS x1) _)))=>d7
  have eT:mkS T9++mkS x1=mkS (T9++x1):=by unfold mkS;rw[app2]
  rw[eT] at d7 ⊢
  have ok7:=fun o9=>LexOk.sub (news':=((L+5,o9)::(L+3,o3)::(S,lst zs)::Tl)++[(I,o)]) ok9 fun r hr=>by
   rcases List.mem_cons.mp hr with rfl|hr
   ·exact⟨_,.head _,rfl⟩
   ·exact⟨_,.tail _ hr,rfl⟩
  (refine push_c w p loose mean mg mb (((L+5,_)::(L+3,o3)::(S,lst zs)::Tl)++[(I,o)]) q LN tl ps9 pn9 ss sn (.str (mkS (T9++x1)) _) (by omega) (ok7 _) _ _ _ _ _ _ _ _ _ _ _ _ _ _ _ _ _ ‹_› ‹_› ‹_› ‹_› ‹_› (by first|assumption|rfl) ?pre (by walk_at "r") (by walk_at "u") ?_);(case pre=>first|exact trivial|assumption)
  first|refine kE1nv ?_|refine kE1vn ?_
  intro pn6 h' tk' F N
  walk_at "X"
  rename Fr _ _ _ _=>F6
  walk_at "H";refine Turn.next (_,pn6,o9) F6 N perm6q (fun r hr=>.inl (lex_off_all2 (R:=(L+5,o5')::(L+3,o3)::(S,lst zs)::Tl) (P:=fun a=>a∈(lexLed w q LN tl (Value.str (mkS x1) tv::ps9) pn' ss sn++((L+5,o5')::(L+3,o3)::(S,lst zs)::Tl)).map (·.1)) (fun p hp=>List.mem_map_of_mem hp) (fun r hr=>?_) r hr)) ⟨rfl,rfl,rfl,rfl,rfl,rfl,rfl,rfl,rfl,rfl,trivial⟩ ⟨?_,?_⟩
  ·rcases List.mem_cons.mp hr with rfl|hr
   ·exact⟨_,.head _,rfl⟩
   ·exact⟨_,.tail _ hr,rfl⟩
  ·dsimp only
   rw[hnx,List.map_append]
   exact StrsAre.append' hps9 (.cons _ _ .nil)
  ·apply Exists.intro
   dsimp only
   rw[hnx]
   exact d7
end
end Uc
end
section
namespace Uc
open PyProof.Rows.LCg
theorem low_two {T:List Nat}(h:∀c∈T,Ltr c):∀c∈T.map lowC,c=102∨c=105:=fun c hc=>by
 obtain⟨d,hd,rfl⟩:=List.mem_map.mp hc
 rcases h d hd with rfl|rfl|rfl|rfl
 ·exact .inl rfl
 ·exact .inr rfl
 ·exact .inl rfl
 ·exact .inr rfl
section
variable (w:World)(p:Program)(loose:List Str)(mean:ExcName->Option Value)(mg mb:Str->Option Value)
theorem l1_got {h₀:Heap}{L fa:Addr}{cd:Value}{s:Shared}{Q:Flow->Shared->Prop}{E:Value->Shared->Prop}{u:Str->Option Value}{A₀:Around}{base:Heap}{outer:List Env}{dp un:Nat}{gd:Option (List Code)}(B:Below A₀ base outer h₀)(hpre:CodeHd base 213 209)(hdp:dp+30<recursionLimit)(hun:un+120<cLine)(hE:PassesOwn (model Pm w) (lawA dp un gd outer L fa cd) (lawEnv L fa cd) E)(X:(K w.params).In h₀)(T:Top p loose mean mg mb h₀)
  {S Ru:Addr} {o3 o5 o6:Obj} {v06:Option Value} {q:Lex} {LN:Int} {tl t0 tk1 tk2 th to tle tv:Tok} {pn sn kk t:Nat} {ps ss:List Value} {tot x1 hx ox lett:List Nat} {vl vt:Value} {pa:WsA} {Tl:Led}
  (d3:o3.data=.cell (some (.ref q.X))) (d5:o5.data=.cell (some (.str (mkS tot) t0))) (d6:o6.data=.cell v06)
  (hp9:ps.length<=100) (ht9:tot.length<=100) (hx9:x1.length<=100) (hLt:∀c∈tot++x1,Ltr c)
  (ok:LexOk q ((L+5,o5)::(L+6,o6)::(L+3,o3)::Tl)) (hl5:∀r∈lexLed w q LN tl [] 0 ss sn,r.1≠L+5/\r.1≠L+6) (ht5:∀r∈Tl,r.1≠L+5/\r.1≠L+6)
  (F:Fr h₀ L s.heap (fm u [(ofString "k",.int (kk:Int) tk1),(ofString "turn",.int (t:Int) tk2),(ofString "sizes",.ref S),(ofString "runs",.ref Ru),(ofString "head",.str (mkS hx) th),(ofString "other",.str (mkS ox) to),(ofString "last",vl),(ofString "text",vt),(ofString "letters",.str (mkS lett) tle),(ofString "past",.ref pa.a)])) (N:News h₀ L s.heap (lexLed w q LN tl (.str (mkS x1) tv::ps) pn ss sn++((L+5,o5)::(L+6,o6)::(L+3,o3)::Tl)))
  (ret:∀h' tk' u' pn' o5' o6' t5' t6' (nw:WsA),o5'.data=.cell (some (.str (mkS (tot++x1)) t5'))->o6'.data=.cell (some (.str (mkS ((tot++x1).map lowC)) t6'))->IntsAre nw.vs (wsOf (mkS (((tot++x1).map lowC).map ledC))).cs->Fr h₀ L h' (fm u' [(ofString "k",.int (kk:Int) tk1),(ofString "turn",.int (t:Int) tk2),(ofString "sizes",.ref S),(ofString "runs",.ref Ru),(ofString "head",.str (mkS hx) th),(ofString "other",.str (mkS ox) to),(ofString "last",vl),(ofString "text",vt),(ofString "letters",.str (mkS lett) tle),(ofString "past",.ref pa.a),(ofString "now",.ref nw.a)])->News h₀ L h' ((nw.a,instObj 189 nw.d)::(nw.d,Uc.wsDq w nw (mkS (((tot++x1).map lowC).map ledC)))::(nw.P,Uc.wsPq nw (mkS (((tot++x1).map lowC).map ledC)))::(nw.T,Uc.wsTq nw)::(lexLed w q LN tl ps pn' ss sn++((L+5,o5')::(L+6,o6')::(L+3,o3)::Tl)))->Q .next { s with heap:=h',toks:=tk' }):
  wpAny (model Pm w) (lawA dp un gd outer L fa cd) (execs [lb1,lb2,lb3] (lawEnv L fa cd)) Q E s:=by
 revert X
 dsimp only[Pm]
 k_fill
 intro X
 unfold lb1 lb2 lb3
 dsimp only[lawEnv,lawA,lawCl] at hE ⊢
 (refine Uc.letAE ?_;intro AA EE)
 (refine Uc.letF F ?_;clear F;intro NM F)
 have e1:=mkS_len tot
 have e2:=mkS_len x1
 have n65:@Ne Nat (L+6) (L+5):=by omega
 have n35:@Ne Nat (L+3) (L+5):=by omega
 have n36:@Ne Nat (L+3) (L+6):=by omega
 walk_at "X"
 (refine get_pushed w p loose mean mg mb ((L+5,o5)::(L+6,o6)::(L+3,o3)::Tl) q LN tl (.str (mkS x1) tv) ps pn ss sn (by omega) ok _ _ _ _ _ _ _ _ _ _ _ _ _ _ _ _ _ ‹_› ‹_› ‹_› ‹_› ‹_› (by first|assumption|rfl) ?pre (by walk_at "r") (by walk_at "u") ?_);(case pre=>first|exact trivial|assumption)
 first|refine kE1nv ?_|refine kE1vn ?_
 intro pn9 h' tk' F N
 have hU5:UpdF (L+5) o5 (lexLed w q LN tl ps pn9 ss sn++((L+5,o5)::(L+6,o6)::(L+3,o3)::Tl)) (fun o9=>lexLed w q LN tl ps pn9 ss sn++((L+5,o9)::(L+6,o6)::(L+3,o3)::Tl)):=updF_front (.head fun r hr=>by
   rcases List.mem_cons.mp hr with rfl|hr
   ·exact n65
   rcases List.mem_cons.mp hr with rfl|hr
   ·exact n35
   ·exact(ht5 r hr).1) (fun r hr=>(lex_offP (P:=fun a=>a≠L+5/\a≠L+6) hl5 r hr).1)
 repeat' (first|(walk_at "P")|(walk_at "V";first|((with_reducible show wpAny _ _ (storeName _ (ofString "total") _) _ _ _);refine storeX_C ‹_› ‹_› (c:=L+5) rfl hU5 d5 (fun h9 o9 F9 N9 d9=>?_))|(walk_at "T")))
 rename (_=Data.cell (some (Value.str (mkS tot++mkS x1) _)))=>d7
 have eT:mkS tot++mkS x1=mkS (tot++x1):=by unfold mkS;rw[app2]
 rw[eT] at d7 ⊢
 have hTl:(tot++x1).length<=200:=by rw[List.length_append];omega
 obtain⟨TT,hTT⟩:∃TT,TT=tot++x1:=⟨_,rfl⟩
 rw[<-hTT] at d7 hLt ret hTl ⊢
 (refine small_c w p loose mean mg mb _ TT _ (by omega) hLt _ _ _ _ _ _ _ _ _ _ _ _ _ _ _ _ _ ‹_› ‹_› ‹_› ‹_› ‹_› (by first|assumption|rfl) ?pre (by walk_at "r") (by walk_at "u") ?_);(case pre=>first|exact trivial|assumption)
 refine kEn1v ?_
 intro t3 h' tk' F N
 have hU6:UpdF (L+6) o6 (lexLed w q LN tl ps pn9 ss sn++((L+5,o9)::(L+6,o6)::(L+3,o3)::Tl)) (fun o8=>lexLed w q LN tl ps pn9 ss sn++((L+5,o9)::(L+6,o8)::(L+3,o3)::Tl)):=updF_front (.tail n65.symm (.head fun r hr=>by
   rcases List.mem_cons.mp hr with rfl|hr
   ·exact n36
   ·exact(ht5 r hr).2)) (fun r hr=>(lex_offP (P:=fun a=>a≠L+5/\a≠L+6) hl5 r hr).2)
 repeat' (first|(walk_at "P")|(walk_at "V";first|((with_reducible show wpAny _ _ (storeName _ (ofString "small") _) _ _ _);refine storeX_C ‹_› ‹_› (c:=L+6) rfl hU6 d6 (fun h8 o8 F8 N8 d8=>?_))|(walk_at "T")))
 (refine lead1_c w p loose mean mg mb _ (TT.map lowC) _ (by rw[List.length_map];omega) (low_two hLt) _ _ _ _ _ _ _ _ _ _ _ _ _ _ _ _ _ ‹_› ‹_› ‹_› ‹_› ‹_› (by first|assumption|rfl) ?pre (by walk_at "r") (by walk_at "u") ?_);(case pre=>first|exact trivial|assumption)
 intro v n' h' tk' hv F N
 (refine Uc.ex1 hv fun nw=>Uc.an3 fun e1q e2q hI8=>?_;clear hv;subst e1q;subst e2q)
 walk_at "X"
 exact ret _ _ _ _ _ _ _ _ nw d7 d8 hI8 (toFm ‹_› _ ⟨rfl,rfl,rfl,rfl,rfl,rfl,rfl,rfl,rfl,rfl,rfl,trivial⟩) ‹_›
end
end Uc
end
section
namespace Uc
open PyProof.Rows.LCg
theorem take_last {l:List Nat}{k:Nat}(h:k<l.length):(l.take (k+1)).getLast? =some (l.getD k 0):=by
 rw[List.getLast?_eq_getElem?,List.length_take,List.getElem?_take,if_pos (by omega),List.getD_eq_getElem?_getD,show min (k+1) l.length-1=k by omega,List.getElem?_eq_getElem h]
 rfl
theorem fold_list (l:List Nat):∀(n:Nat) (acc:Array Nat),(List.replicate n l.toArray).foldl (· ++·) acc=acc++(List.replicate n l).flatten.toArray
 |0,acc=>by simp
 |n+1,acc=>by
  rw[List.replicate_succ,List.foldl_cons,fold_list l n,List.replicate_succ]
  apply Array.toList_inj.mp
  simp
theorem mul_list (l:List Nat)(n:Nat):Txt.mul (mkS l) (n:Int)=mkS (List.replicate n l).flatten:=by
 unfold Txt.mul
 match n with
 |0=>rfl
 |1=>
  show mkS l=mkS (l++[])
  rw[List.append_nil]
 |n+2=>
  rw[if_neg (by omega)]
  by_cases h:l=[]
  ·subst h
   rw[if_pos (by simp[Str.length,mkS])]
   simp
  ·rw[if_neg (by
    have e1:(((n+2:Nat):Int)==1)=false:=by simp;omega
    rw[e1,mkS_len]
    simp[h])]
   rw[Int.toNat_natCast]
   show(⟨(List.replicate (n+2) l.toArray).foldl (· ++·) #[]⟩:Str)=_
   rw[fold_list]
   unfold mkS
   simp
theorem blank_tab (x:List Nat)(h:1<=x.length):Txt.mul (ofString " ") (((mkS x).length:Int)-1)++ofString "\t"=mkS (List.replicate (x.length-1) 32++[9]):=by
 rw[mkS_len,show((x.length:Int)-1)=((x.length-1:Nat):Int) from(Int.ofNat_sub h).symm,show ofString " "=(⟨#[32]⟩:Str) from by rfl,mul_rep,show ofString "\t"=(⟨[9].toArray⟩:Str) from by rfl,app2]
 rfl
theorem flat_len (B:List Nat)(f:Nat)(hb:(mkS B).length<=3)(hf:f<=50):(mkS (List.replicate f B).flatten).length<=150:=by
 rw[mkS_len] at hb ⊢
 have:(List.replicate f B).flatten.length=f*B.length:=by
  clear hf
  induction f with
  |zero=>simp
  |succ f ih=>rw[List.replicate_succ,List.flatten_cons,List.length_append,ih,Nat.succ_mul,Nat.add_comm]
 rw[this]
 exact Nat.le_trans (Nat.mul_le_mul hf hb) (by decide)
theorem blank_sz (x:List Nat)(h:1<=x.length)(h3:x.length<=3):(Txt.mul (ofString " ") (((mkS x).length:Int)-1)).length+(ofString "\t").length<=sizeLine:=by
 rw[mkS_len,show((x.length:Int)-1)=((x.length-1:Nat):Int) from(Int.ofNat_sub h).symm,show ofString " "=(⟨#[32]⟩:Str) from by rfl,mul_rep,sizeLine_eq]
 have:=len_mk (List.replicate (x.length-1) 32)
 rw[this,List.length_replicate]
 show _+1<=_
 omega
section
variable (w:World)(p:Program)(loose:List Str)(mean:ExcName->Option Value)(mg mb:Str->Option Value)
theorem l1_due {h₀:Heap}{L fa:Addr}{cd:Value}{s:Shared}{Q:Flow->Shared->Prop}{E:Value->Shared->Prop}{u:Str->Option Value}{A₀:Around}{base:Heap}{outer:List Env}{dp un:Nat}{gd:Option (List Code)}(B:Below A₀ base outer h₀)(hpre:CodeHd base 213 209)(hdp:dp+30<recursionLimit)(hun:un+120<cLine)(hE:PassesOwn (model Pm w) (lawA dp un gd outer L fa cd) (lawEnv L fa cd) E)(X:(K w.params).In h₀)(T:Top p loose mean mg mb h₀)
  {S Ru:Addr} {tk1 tk2 th to tle:Tok} {kk t rk:Nat} {rs:List Value} {runs sr:List Nat} {hx ox lett:List Nat} {vl vt:Value} {pa nw:WsA} {G:Led}
  (hr:IntsAre rs (runs.map fun(n:Nat)=>(n:Int))) (hrl:runs.length<=10) (hpm:runs.Perm sr) (hso:sr.Pairwise (· <=·)) (hs9:∀x∈sr,x<=10) (hk:kk<sr.length) (htk:t<=sr.getD kk 0)
  (hh1:1<=hx.length) (hh2:hx.length<=3) (ho1:1<=ox.length) (ho2:ox.length<=3) 
  {f g:Nat} (hf:f=(waysN (sr.take (kk+1)) (sr.getD kk 0)++[0]).getD t 0) (hg:g=kk*f+(waysN (sr.take (kk+1)) (sr.getD kk 0)++[0]).getD (t+1) 0) (hf9:f<=50) (hg9:g<=50)
  (F:Fr h₀ L s.heap (fm u [(ofString "k",.int (kk:Int) tk1),(ofString "turn",.int (t:Int) tk2),(ofString "sizes",.ref S),(ofString "runs",.ref Ru),(ofString "head",.str (mkS hx) th),(ofString "other",.str (mkS ox) to),(ofString "last",vl),(ofString "text",vt),(ofString "letters",.str (mkS lett) tle),(ofString "past",.ref pa.a),(ofString "now",.ref nw.a)])) (N:News h₀ L s.heap ((Ru,W.listOf rs.toArray rk)::G))
  (ret:∀h' tk' u' tf tg (pl:WsA),IntsAre pl.vs (wsOf (mkS (plainL hx.length ox.length f g))).cs->Fr h₀ L h' (fm u' [(ofString "k",.int (kk:Int) tk1),(ofString "turn",.int (t:Int) tk2),(ofString "sizes",.ref S),(ofString "runs",.ref Ru),(ofString "head",.str (mkS hx) th),(ofString "other",.str (mkS ox) to),(ofString "last",vl),(ofString "text",vt),(ofString "letters",.str (mkS lett) tle),(ofString "past",.ref pa.a),(ofString "now",.ref nw.a),(ofString "plain",.ref pl.a),(ofString "first",.int (f:Int) tf),(ofString "others",.int (g:Int) tg)])->News h₀ L h' ((pl.a,instObj 189 pl.d)::(pl.d,Uc.wsDq w pl (mkS (plainL hx.length ox.length f g)))::(pl.P,Uc.wsPq pl (mkS (plainL hx.length ox.length f g)))::(pl.T,Uc.wsTq pl)::(Ru,W.listOf rs.toArray rk)::G)->Q .next { s with heap:=h',toks:=tk' }):
  wpAny (model Pm w) (lawA dp un gd outer L fa cd) (execs [lb4,lb5] (lawEnv L fa cd)) Q E s:=by
 revert X
 dsimp only[Pm]
 k_fill
 intro X
 unfold lb4 lb5
 dsimp only[lawEnv,lawA,lawCl] at hE ⊢
 (refine Uc.letAE ?_;intro AA EE)
 (refine Uc.letF F ?_;clear F;intro NM F)
 have hrs:rs.length=runs.length:=by rw[intsAre_len hr,List.length_map]
 repeat' (first|(walk_at "P")|(walk_at "V";first|((with_reducible show wpAny _ _ (call (Value.builtin "sorted") [Value.ref _]) _ _ _);refine kso_sorted ‹_› ‹_› (News.isList ‹_› (by k_mem)) hr (by rw[List.length_map];omega) ?_;intro D9 vs9 ns9 c9 h9 F9 N9 l9 i9 e9 p9 o9 b9)|(walk_at "T")))
 rename IntsAre _ (List.take _ ns9)=>hI9
 rename (D9<_/\_)=>hA9
 have es:ns9=sr.map fun(n:Nat)=>(n:Int):=ksm_same (p9.trans (hpm.map _)) o9 (by rw[List.pairwise_map];exact hso.imp fun h=>by omega)
 rw[es,show((kk:Int)+1).toNat=kk+1 by omega, <-List.map_take] at hI9
 have hsl:=hpm.length_eq
 have el:(sr.take (kk+1)).length=kk+1:=by rw[List.length_take];omega
 (refine due_c w p loose mean mg mb _ _ _ 0 (sr.take (kk+1)) t (sr.getD kk 0) tk2 hI9 (take_last hk) (by rw[el];omega) (fun x hx=>hs9 x (List.mem_of_mem_take hx)) htk (show AllLt _ ((D9,W.listOf vs9.toArray c9)::(Ru,W.listOf rs.toArray rk)::G) from hA9) _ _ _ _ _ _ _ _ _ _ _ _ _ _ _ _ _ ‹_› ‹_› ‹_› ‹_› ‹_› (by first|assumption|rfl) ?pre (by walk_at "r") (by walk_at "u") ?_);(case pre=>first|exact trivial|assumption)
 refine kE3vn ?_
 intro a9 tf tg h' tk' F N
 rw[el,show kk+1-1=kk from rfl, <-hf, <-hg] at N
 have e1:=mkS_len hx
 have e2:=mkS_len ox
 clear hf hg
 have hb1:(mkS (List.replicate (hx.length-1) 32++[9])).length<=3:=by rw[mkS_len,List.length_append,List.length_replicate];show _+1<=3;omega
 have hb2:(mkS (List.replicate (ox.length-1) 32++[9])).length<=3:=by rw[mkS_len,List.length_append,List.length_replicate];show _+1<=3;omega
 obtain⟨B1,hB1⟩:∃B1,B1=List.replicate (hx.length-1) 32++[9]:=⟨_,rfl⟩
 obtain⟨B2,hB2⟩:∃B2,B2=List.replicate (ox.length-1) 32++[9]:=⟨_,rfl⟩
 rw[<-hB1] at hb1
 rw[<-hB2] at hb2
 have em1:=flat_len B1 f hb1 hf9
 have em2:=flat_len B2 g hb2 hg9
 repeat' (first|(walk_at "P")|(walk_at "V";first|((with_reducible show wpAny _ _ (binaryOp Operator.Add (Value.str (Txt.mul _ _) _) (Value.str (ofString _) _)) _ _ _);first|(refine SB.add ?_ (Uc.blank_sz hx hh1 hh2);intro _ _;rw[Uc.blank_tab hx hh1, <-hB1])|(refine SB.add ?_ (Uc.blank_sz ox ho1 ho2);intro _ _;rw[Uc.blank_tab ox ho1, <-hB2]))|((with_reducible show wpAny _ _ (binaryOp Operator.Mult (Value.str (Uc.mkS _) _) (Value.int _ _)) _ _ _);refine SB.mul (mulOk_of 16 1048576 (by omega) (by omega) (by omega) (by decide) (by decide)) ?_;intro _ _;rw[Uc.mul_list])|(walk_at "T")))
 have epl:mkS (List.replicate f B1).flatten++mkS (List.replicate g B2).flatten=mkS (plainL hx.length ox.length f g):=by rw[hB1,hB2];unfold mkS;rw[app2];rfl
 have epn:=mkS_len (plainL hx.length ox.length f g)
 have eps:(mkS (plainL hx.length ox.length f g)).length<=300:=by
  rw[epn]
  unfold plainL
  rw[<-hB1, <-hB2,List.length_append]
  rw[mkS_len] at em1 em2
  omega
 rw[epl]
 (refine ws_make w p loose mean mg mb _ (mkS (plainL hx.length ox.length f g)) _ (by omega) _ _ _ _ _ _ _ _ _ _ _ _ _ _ _ _ _ ‹_› ‹_› ‹_› ‹_› ‹_› (by first|assumption|rfl) ?pre (by walk_at "r") (by walk_at "u") ?_);(case pre=>first|exact trivial|assumption)
 first|refine kE13nvp ?_|refine kE13vnp ?_
 intro a d P T' vs tn tt2 tb k0 k1 k2 k3 k4 h' tk' hvs F N
 walk_at "X"
 exact ret _ _ _ tf tg ⟨a,d,P,T',vs,_,tn,tt2,tb,k0,k1,k2,k3,k4⟩ hvs (toFm ‹_› _ ⟨rfl,rfl,rfl,rfl,rfl,rfl,rfl,rfl,rfl,rfl,rfl,rfl,rfl,rfl,trivial⟩) (News.sub ‹_› (by walk_at "I"))
end
end Uc
end
section
namespace Uc
open PyProof.Rows.LCg
theorem perm444 {α:Type}{a1 a2 a3 a4 b1 b2 b3 b4 c1 c2 c3 c4:α}{l:List α}:∀p∈a1::a2::a3::a4::c1::c2::c3::c4::b1::b2::b3::b4::l,p∈a1::a2::a3::a4::b1::b2::b3::b4::c1::c2::c3::c4::l:=subL [[a1],[a2],[a3],[a4],[b1],[b2],[b3],[b4],[c1],[c2],[c3],[c4]] [0,1,2,3,4,5,6,7,8,9,10,11] [0,1,2,3,8,9,10,11,4,5,6,7] rfl l
section
variable (w:World)(p:Program)(loose:List Str)(mean:ExcName->Option Value)(mg mb:Str->Option Value)
theorem l1_eq {h₀:Heap}{L fa:Addr}{cd:Value}{s:Shared}{Q:Flow->Shared->Prop}{E:Value->Shared->Prop}{u:Str->Option Value}{A₀:Around}{base:Heap}{outer:List Env}{dp un:Nat}{gd:Option (List Code)}(B:Below A₀ base outer h₀)(hpre:CodeHd base 213 209)(hdp:dp+30<recursionLimit)(hun:un+120<cLine)(hE:PassesOwn (model Pm w) (lawA dp un gd outer L fa cd) (lawEnv L fa cd) E)(X:(K w.params).In h₀)(T:Top p loose mean mg mb h₀)
  {S Ru:Addr} {o6:Obj} {tk1 tk2 th to tle t6 tf tg:Tok} {kk t f g:Nat} {hx ox lett sm:List Nat} {x1 x2 x3:Str} {vl vt:Value} {pa nw pl:WsA} {G:Led}
  (d6:o6.data=.cell (some (.str (mkS sm) t6))) (i1:IntsAre nw.vs (wsOf x1).cs) (i2:IntsAre pl.vs (wsOf x2).cs) (i3:IntsAre pa.vs (wsOf x3).cs) (hq1:wsEq (wsOf x1) (wsOf x2)=true) (hq2:wsEq (wsOf x1) (wsOf x3)=false)
  (hlev:levS (mkS lett) (mkS sm) (t:Int)=2*(((wsOf x2).n:Int)-(lett.length:Int))) (hl1:lett.length<=500) (hl2:sm.length<=500) (ht:t<=10)
  (F:Fr h₀ L s.heap (fm u [(ofString "k",.int (kk:Int) tk1),(ofString "turn",.int (t:Int) tk2),(ofString "sizes",.ref S),(ofString "runs",.ref Ru),(ofString "head",.str (mkS hx) th),(ofString "other",.str (mkS ox) to),(ofString "last",vl),(ofString "text",vt),(ofString "letters",.str (mkS lett) tle),(ofString "past",.ref pa.a),(ofString "now",.ref nw.a),(ofString "plain",.ref pl.a),(ofString "first",.int (f:Int) tf),(ofString "others",.int (g:Int) tg)])) (N:News h₀ L s.heap ((nw.a,instObj 189 nw.d)::(nw.d,Uc.wsDq w nw x1)::(nw.P,Uc.wsPq nw x1)::(nw.T,Uc.wsTq nw)::(pl.a,instObj 189 pl.d)::(pl.d,Uc.wsDq w pl x2)::(pl.P,Uc.wsPq pl x2)::(pl.T,Uc.wsTq pl)::(pa.a,instObj 189 pa.d)::(pa.d,Uc.wsDq w pa x3)::(pa.P,Uc.wsPq pa x3)::(pa.T,Uc.wsTq pa)::(L+6,o6)::G))
  (ret:∀h' tk' u',Fr h₀ L h' (fm u' [(ofString "k",.int (kk:Int) tk1),(ofString "turn",.int (t:Int) tk2),(ofString "sizes",.ref S),(ofString "runs",.ref Ru),(ofString "head",.str (mkS hx) th),(ofString "other",.str (mkS ox) to),(ofString "last",vl),(ofString "text",vt),(ofString "letters",.str (mkS lett) tle),(ofString "past",.ref pa.a),(ofString "now",.ref nw.a),(ofString "plain",.ref pl.a),(ofString "first",.int (f:Int) tf),(ofString "others",.int (g:Int) tg)])->News h₀ L h' ((nw.a,instObj 189 nw.d)::(nw.d,Uc.wsDq w nw x1)::(nw.P,Uc.wsPq nw x1)::(nw.T,Uc.wsTq nw)::(pl.a,instObj 189 pl.d)::(pl.d,Uc.wsDq w pl x2)::(pl.P,Uc.wsPq pl x2)::(pl.T,Uc.wsTq pl)::(pa.a,instObj 189 pa.d)::(pa.d,Uc.wsDq w pa x3)::(pa.P,Uc.wsPq pa x3)::(pa.T,Uc.wsTq pa)::(L+6,o6)::G)->Q .next { s with heap:=h',toks:=tk' }):
  wpAny (model Pm w) (lawA dp un gd outer L fa cd) (execs [lb6,lb7] (lawEnv L fa cd)) Q E s:=by
 revert X
 dsimp only[Pm]
 k_fill
 intro X
 unfold lb6 lb7
 dsimp only[lawEnv,lawA,lawCl] at hE ⊢
 (refine Uc.letAE ?_;intro AA EE)
 (refine Uc.letF F ?_;clear F;intro NM F)
 have e1:=mkS_len lett
 have e2:=mkS_len sm
 walk_at "X"
 (refine equal_c w p loose mean mg mb _ x1 x2 nw pl i1 i2 _ _ _ _ _ _ _ _ _ _ _ _ _ _ _ _ _ ‹_› ‹_› ‹_› ‹_› ‹_› (by first|assumption|rfl) ?pre (by walk_at "r") (by walk_at "u") ?_);(case pre=>first|exact trivial|assumption)
 first|refine kE0nv ?_|refine kE0vn ?_
 intro h' tk' F N
 rw[hq1]
 walk_at "X"
 have N2:=News.sub (b:=(nw.a,instObj 189 nw.d)::(nw.d,Uc.wsDq w nw x1)::(nw.P,Uc.wsPq nw x1)::(nw.T,Uc.wsTq nw)::(pa.a,instObj 189 pa.d)::(pa.d,Uc.wsDq w pa x3)::(pa.P,Uc.wsPq pa x3)::(pa.T,Uc.wsTq pa)::(pl.a,instObj 189 pl.d)::(pl.d,Uc.wsDq w pl x2)::(pl.P,Uc.wsPq pl x2)::(pl.T,Uc.wsTq pl)::(L+6,o6)::G) N perm444
 clear N
 (refine equal_c w p loose mean mg mb _ x1 x3 nw pa i1 i3 _ _ _ _ _ _ _ _ _ _ _ _ _ _ _ _ _ ‹_› ‹_› ‹_› ‹_› ‹_› (by first|assumption|rfl) ?pre (by walk_at "r") (by walk_at "u") ?_);(case pre=>first|exact trivial|assumption)
 first|refine kE0nv ?_|refine kE0vn ?_
 intro h' tk' F N
 rw[hq2]
 walk_at "X"
 (refine lev w p loose mean mg mb _ (mkS lett) (mkS sm) _ _ _ (t:Int) (by omega) (by omega) (by omega) (by omega) _ _ _ _ _ _ _ _ _ _ _ _ _ _ _ _ _ ‹_› ‹_› ‹_› ‹_› ‹_› (by first|assumption|rfl) ?pre (by walk_at "r") (by walk_at "u") ?_);(case pre=>first|exact trivial|assumption)
 refine kEn1v ?_
 intro t7 h' tk' F N
 rw[hlev]
 walk_at "X"
 exact ret _ _ _ ‹_› (News.sub ‹_› perm444)
end
end Uc
end
section
namespace Uc
open PyProof.Rows.LCg
section
variable (w:World)(p:Program)(loose:List Str)(mean:ExcName->Option Value)(mg mb:Str->Option Value)
theorem l1_cost {h₀:Heap}{L fa:Addr}{cd:Value}{s:Shared}{Q:Flow->Shared->Prop}{E:Value->Shared->Prop}{u:Str->Option Value}{A₀:Around}{base:Heap}{outer:List Env}{dp un:Nat}{gd:Option (List Code)}(B:Below A₀ base outer h₀)(hpre:CodeHd base 213 209)(hdp:dp+30<recursionLimit)(hun:un+120<cLine)(hE:PassesOwn (model Pm w) (lawA dp un gd outer L fa cd) (lawEnv L fa cd) E)(X:(K w.params).In h₀)(T:Top p loose mean mg mb h₀)
  {S Ru:Addr} {o5 o6:Obj} {tk1 tk2 th to tle t5 t6 tf tg:Tok} {kk t f g gr spc:Nat} {hx ox lett T9 sm:List Nat} {vl vt:Value} {pa nw pl:WsA} {G:Led}
  (d5:o5.data=.cell (some (.str (mkS T9) t5))) (d6:o6.data=.cell (some (.str (mkS sm) t6))) (hln:T9.length=sm.length) (hl2:sm.length<=500)
  (hh1:1<=hx.length) (hh2:hx.length<=3) (ho1:1<=ox.length) (ho2:ox.length<=3) (hf9:f<=50) (hg9:g<=50) (hgr:gr=f*hx.length) (hsp:spc=f*(hx.length-1)+g*min (ox.length-1) 1)
  (hc:(costL T9 sm).sum=(gr:Int))
  (F:Fr h₀ L s.heap (fm u [(ofString "k",.int (kk:Int) tk1),(ofString "turn",.int (t:Int) tk2),(ofString "sizes",.ref S),(ofString "runs",.ref Ru),(ofString "head",.str (mkS hx) th),(ofString "other",.str (mkS ox) to),(ofString "last",vl),(ofString "text",vt),(ofString "letters",.str (mkS lett) tle),(ofString "past",.ref pa.a),(ofString "now",.ref nw.a),(ofString "plain",.ref pl.a),(ofString "first",.int (f:Int) tf),(ofString "others",.int (g:Int) tg)])) (N:News h₀ L s.heap ((L+5,o5)::(L+6,o6)::G))
  (ret:∀h' tk' u' tgr tsp,Fr h₀ L h' (fm u' [(ofString "k",.int (kk:Int) tk1),(ofString "turn",.int (t:Int) tk2),(ofString "sizes",.ref S),(ofString "runs",.ref Ru),(ofString "head",.str (mkS hx) th),(ofString "other",.str (mkS ox) to),(ofString "last",vl),(ofString "text",vt),(ofString "letters",.str (mkS lett) tle),(ofString "past",.ref pa.a),(ofString "now",.ref nw.a),(ofString "plain",.ref pl.a),(ofString "first",.int (f:Int) tf),(ofString "others",.int (g:Int) tg),(ofString "great",.int (gr:Int) tgr),(ofString "spaced",.int (spc:Int) tsp)])->News h₀ L h' ((L+5,o5)::(L+6,o6)::G)->Q .next { s with heap:=h',toks:=tk' }):
  wpAny (model Pm w) (lawA dp un gd outer L fa cd) (execs [lb8,lb9] (lawEnv L fa cd)) Q E s:=by
 revert X
 dsimp only[Pm]
 k_fill
 intro X
 unfold lb8 lb9
 dsimp only[lawEnv,lawA,lawCl] at hE ⊢
 (refine Uc.letAE ?_;intro AA EE)
 (refine Uc.letF F ?_;clear F;intro NM F)
 have e1:=mkS_len T9
 have e2:=mkS_len sm
 have e3:=mkS_len hx
 have e4:=mkS_len ox
 repeat' (first|(walk_at "P")|(walk_at "V";first|((with_reducible show wpAny _ _ (eval (Expr.ListComp _ _ _ _) _) _ _ _);(k_dflt (refine Uc.comp_range (by rfl) (by decide) (by rfl) (by decide) (by rfl) ?_ (by intro _;rfl))))|(walk_at "T")))
 rename Fr _ _ _ _=>F90
 rename News _ _ _ _=>N90
 rename IsRange _ _ _ _ _ _ _ _=>hr9
 have eg:(f:Int)*((mkS hx).length:Int)=(gr:Int):=by rw[e3,hgr];push_cast;rfl
 have es:(f:Int)*(((mkS hx).length:Int)-1)+(g:Int)*(if 1<((mkS ox).length:Int)-1 then 1 else((mkS ox).length:Int)-1)=(spc:Int):=by
  rw[e3,e4,hsp,show(if 1<((ox.length:Nat):Int)-1 then 1 else((ox.length:Nat):Int)-1)=((min (ox.length-1) 1:Nat):Int) by split<;>omega,show((hx.length:Nat):Int)-1=((hx.length-1:Nat):Int) from(Int.ofNat_sub hh1).symm]
  push_cast
  rfl
 rw[eg,es] at F90
 rw[e2] at hr9
 have N9:=News.sub (b:=(L+5,o5)::(L+6,o6)::G) N90 (fun r hr=>.tail _ hr)
 obtain⟨u9,tgr,tsp,F9⟩:∃u9 tgr tsp,Fr h₀ L _ (fm u9 [(ofString "k",.int (kk:Int) tk1),(ofString "turn",.int (t:Int) tk2),(ofString "sizes",.ref S),(ofString "runs",.ref Ru),(ofString "head",.str (mkS hx) th),(ofString "other",.str (mkS ox) to),(ofString "last",vl),(ofString "text",vt),(ofString "letters",.str (mkS lett) tle),(ofString "past",.ref pa.a),(ofString "now",.ref nw.a),(ofString "plain",.ref pl.a),(ofString "first",.int (f:Int) tf),(ofString "others",.int (g:Int) tg),(ofString "great",.int (gr:Int) tgr),(ofString "spaced",.int (spc:Int) tsp)]):=⟨_,_,_,toFm F90 _ ⟨rfl,rfl,rfl,rfl,rfl,rfl,rfl,rfl,rfl,rfl,rfl,rfl,rfl,rfl,rfl,rfl,trivial⟩⟩
 clear F90 N90
 refine Uc.ei11 _ _ _ _ _ _ _ _ sm.length _ (fun j zs2 nw2=>nw2=(L+5,o5)::(L+6,o6)::G/\IntsAre zs2 ((costL T9 sm).take j)) ⟨rfl,rfl,F9,N9,by assumption,rfl,by omega,⟨rfl,.nil⟩,?T,?fin⟩
 case T=>
  clear F9 N9
  intro g2 j vj zs2 nw2 I2 oI2 C2 oC2 D2 m3 h2 tk2' E2 hj w3q w4q _ hoC2 hmj F N off2 w5q;obtain⟨tj,rfl⟩:=w3q;(refine Uc.ah2 w4q fun e1q hS2=>?_;clear w4q;subst e1q);(refine Uc.ah3 w5q fun d1' d2' d3'=>?_;clear w5q)
  refine wpAny_tests_nil ?_
  simp only[if_true]
  have ej1:Txt.item (mkS T9) (j:Int)=⟨#[T9.getD j 0]⟩:=by rw[item_nat _ _ (by omega)];unfold mkS;simp
  have ej2:Txt.item (mkS sm) (j:Int)=⟨#[sm.getD j 0]⟩:=by rw[item_nat _ _ (by omega)];unfold mkS;simp
  walk_at "X"
  (refine sub_cost w p loose mean mg mb _ (Txt.item (mkS T9) (j:Int)) (Txt.item (mkS sm) (j:Int)) _ _ (by omega) (by omega) _ _ _ _ _ _ _ _ _ _ _ _ _ _ _ _ _ ‹_› ‹_› ‹_› ‹_› ‹_› (by first|assumption|rfl) ?pre (by walk_at "r") (by walk_at "u") ?_);(case pre=>first|exact trivial|assumption)
  refine kEn1v ?_
  intro t2 h' tk' F N
  walk_at "X"
  exact TurnC.mk _ ‹_› ‹_› (fun _ h=>h) off2 ⟨trivial,rfl,by
   have ek:(costL T9 sm)[j]? =some (subCost (Txt.item (mkS T9) (j:Int)) (Txt.item (mkS sm) (j:Int))):=by
    rw[ej1,ej2];unfold costL;rw[List.getElem?_map,List.getElem?_range hj];rfl
   rw[List.take_add_one,ek]
   exact IntsAre.append hS2 (.cons _ _ .nil)⟩
 case fin=>
  clear F9 N9
  intro D2 h2 tk2' zs2 nw2 w6q F N o2;(refine Uc.ah2 w6q fun e1q hS2=>?_;clear w6q;subst e1q)
  rw[List.take_of_length_le (by unfold costL;rw[List.length_map,List.length_range];exact Nat.le_refl _)] at hS2
  walk_at "X"
  exact ret _ _ _ _ _ ‹_› (News.sub ‹_› (fun r hr=>.tail _ hr))
theorem l1_bsd {h₀:Heap}{L fa:Addr}{cd:Value}{s:Shared}{Q:Flow->Shared->Prop}{E:Value->Shared->Prop}{u:Str->Option Value}{A₀:Around}{base:Heap}{outer:List Env}{dp un:Nat}{gd:Option (List Code)}(B:Below A₀ base outer h₀)(hpre:CodeHd base 213 209)(hdp:dp+30<recursionLimit)(hun:un+120<cLine)(hE:PassesOwn (model Pm w) (lawA dp un gd outer L fa cd) (lawEnv L fa cd) E)(X:(K w.params).In h₀)(T:Top p loose mean mg mb h₀)
  {S Ru:Addr} {o5 o6:Obj} {tk1 tk2 th to tle t5 t6 tf tg tgr tsp:Tok} {kk t f g gr spc:Nat} {hx ox lett T9 sm:List Nat} {vl vt:Value} {pa nw pl:WsA} {G:Led}
  (d5:o5.data=.cell (some (.str (mkS T9) t5))) (d6:o6.data=.cell (some (.str (mkS sm) t6))) (hln:T9.length=sm.length) (hl2:sm.length<=500) (hl1:1<=sm.length)
  (hf9:f<=50) (hs9:spc<=500) (hh1:1<=hx.length) (hh2:hx.length<=2)
  (hc:(bsdL T9 sm).sum=4*(spc:Int)+(f:Int)*(2-(hx.length:Int)))
  (F:Fr h₀ L s.heap (fm u [(ofString "k",.int (kk:Int) tk1),(ofString "turn",.int (t:Int) tk2),(ofString "sizes",.ref S),(ofString "runs",.ref Ru),(ofString "head",.str (mkS hx) th),(ofString "other",.str (mkS ox) to),(ofString "last",vl),(ofString "text",vt),(ofString "letters",.str (mkS lett) tle),(ofString "past",.ref pa.a),(ofString "now",.ref nw.a),(ofString "plain",.ref pl.a),(ofString "first",.int (f:Int) tf),(ofString "others",.int (g:Int) tg),(ofString "great",.int (gr:Int) tgr),(ofString "spaced",.int (spc:Int) tsp)])) (N:News h₀ L s.heap ((L+5,o5)::(L+6,o6)::G))
  (ret:∀h' tk' u',Fr h₀ L h' (fm u' [(ofString "k",.int (kk:Int) tk1),(ofString "turn",.int (t:Int) tk2),(ofString "sizes",.ref S),(ofString "runs",.ref Ru),(ofString "head",.str (mkS hx) th),(ofString "other",.str (mkS ox) to),(ofString "last",vl),(ofString "text",vt),(ofString "letters",.str (mkS lett) tle),(ofString "past",.ref pa.a),(ofString "now",.ref nw.a),(ofString "plain",.ref pl.a),(ofString "first",.int (f:Int) tf),(ofString "others",.int (g:Int) tg),(ofString "great",.int (gr:Int) tgr),(ofString "spaced",.int (spc:Int) tsp)])->News h₀ L h' ((L+5,o5)::(L+6,o6)::G)->Q .next { s with heap:=h',toks:=tk' }):
  wpAny (model Pm w) (lawA dp un gd outer L fa cd) (execs [lb10,lb11] (lawEnv L fa cd)) Q E s:=by
 revert X
 dsimp only[Pm]
 k_fill
 intro X
 unfold lb10 lb11
 dsimp only[lawEnv,lawA,lawCl] at hE ⊢
 (refine Uc.letAE ?_;intro AA EE)
 (refine Uc.letF F ?_;clear F;intro NM F)
 have e1:=mkS_len T9
 have e2:=mkS_len sm
 have e3:=mkS_len hx
 rw[<-e3] at hc
 repeat' (first|(walk_at "P")|(walk_at "V";first|((with_reducible show wpAny _ _ (exec (PySem.Stmt.Assign _ (Expr.ListComp _ _ _ _) _) _) _ _ _);(k_dflt (refine Uc.comp_rangeA (by with_unfolding_all rfl) (by rfl) (by decide) (by rfl) (by decide) (by rfl) (by rfl) (by rfl) ?_ (by intro _;rfl))))|(walk_at "T")))
 rename Fr _ _ _ _=>F9
 rename News _ _ _ _=>N9
 rename IsRange _ _ _ _ _ _ _ _=>hr9
 rw[e2] at hr9
 refine Uc.ei10 _ _ _ _ _ _ _ sm.length _ (fun j zs2 nw2=>nw2=(L+5,o5)::(L+6,o6)::G/\IntsAre zs2 ((bsdL T9 sm).take j)) ⟨rfl,rfl,F9,N9,by assumption,rfl,by omega,⟨rfl,.nil⟩,?T,?fin⟩
 case T=>
  clear F9 N9
  intro g2 j vj zs2 nw2 I2 oI2 C2 oC2 D2 m3 h2 tk2' E2 hj w3q w4q _ hoC2 hmj F N off2 w5q;obtain⟨tj,rfl⟩:=w3q;(refine Uc.ah2 w4q fun e1q hS2=>?_;clear w4q;subst e1q);(refine Uc.ah3 w5q fun d1' d2' d3'=>?_;clear w5q)
  refine wpAny_tests_nil ?_
  simp only[if_true]
  have ej1:Txt.item (mkS T9) (j:Int)=⟨#[T9.getD j 0]⟩:=by rw[item_nat _ _ (by omega)];unfold mkS;simp
  have ej2:Txt.item (mkS sm) ((j:Int)-1)=⟨#[sm.getD (if j=0 then sm.length-1 else j-1) 0]⟩:=by
   by_cases h0:j=0
   ·rw[if_pos h0,h0,show((0:Nat):Int)-1= -((1:Nat):Int) by omega,item_neg _ _ (by omega) (by omega),e2];unfold mkS;simp
   ·rw[if_neg h0,show(j:Int)-1=((j-1:Nat):Int) from(Int.ofNat_sub (Nat.pos_of_ne_zero h0)).symm,item_nat _ _ (by omega)];unfold mkS;simp
  walk_at "X"
  (refine sub_cost w p loose mean mg mb _ (Txt.item (mkS T9) (j:Int)) (Txt.item (mkS sm) ((j:Int)-1)) _ _ (by omega) (by omega) _ _ _ _ _ _ _ _ _ _ _ _ _ _ _ _ _ ‹_› ‹_› ‹_› ‹_› ‹_› (by first|assumption|rfl) ?pre (by walk_at "r") (by walk_at "u") ?_);(case pre=>first|exact trivial|assumption)
  refine kEn1v ?_
  intro t2 h' tk' F N
  walk_at "X"
  exact TurnC.mk _ ‹_› ‹_› (fun _ h=>h) off2 ⟨trivial,rfl,by
   have ek:(bsdL T9 sm)[j]? =some (subCost (Txt.item (mkS T9) (j:Int)) (Txt.item (mkS sm) ((j:Int)-1))):=by
    rw[ej1,ej2];unfold bsdL;rw[List.getElem?_map,List.getElem?_range hj];rfl
   rw[List.take_add_one,ek]
   exact IntsAre.append hS2 (.cons _ _ .nil)⟩
 case fin=>
  clear F9 N9
  intro D2 h2 tk2' zs2 nw2 w6q F N o2;(refine Uc.ah2 w6q fun e1q hS2=>?_;clear w6q;subst e1q)
  rw[List.take_of_length_le (by unfold bsdL;rw[List.length_map,List.length_range];exact Nat.le_refl _)] at hS2
  walk_at "X"
  exact ret _ _ _ (toFm ‹_› _ ⟨rfl,rfl,rfl,rfl,rfl,rfl,rfl,rfl,rfl,rfl,rfl,rfl,rfl,rfl,rfl,rfl,trivial⟩) (News.sub ‹_› (fun r hr=>.tail _ hr))
end
end Uc
end
section
namespace Uc
open PyProof.Rows.LCg
theorem perm44 {α:Type}{a1 a2 a3 a4 b1 b2 b3 b4:α}{l:List α}:∀p∈a1::a2::a3::a4::b1::b2::b3::b4::l,p∈b1::b2::b3::b4::a1::a2::a3::a4::l:=subL [[b1],[b2],[b3],[b4],[a1],[a2],[a3],[a4]] [0,1,2,3,4,5,6,7] [4,5,6,7,0,1,2,3] rfl l
theorem drop48 {α:Type}{a1 a2 a3 a4 b1 b2 b3 b4:α}{l:List α}:∀p∈a1::a2::a3::a4::l,p∈a1::a2::a3::a4::b1::b2::b3::b4::l:=subL [[a1],[a2],[a3],[a4],[b1],[b2],[b3],[b4]] [0,1,2,3,4,5,6,7] [0,1,2,3] rfl l
theorem rep_i (f g:Nat):Txt.mul (ofString "i") ((f:Int)+(g:Int))=mkS (List.replicate (f+g) 105):=by
 rw[show((f:Int)+(g:Int))=((f+g:Nat):Int) by push_cast;rfl,show ofString "i"=(⟨#[105]⟩:Str) from by rfl,mul_rep]
 rfl
theorem rep_f (n f g:Nat)(h:f+g<=n):Txt.mul (ofString "f") ((n:Int)-((f:Int)+(g:Int)))=mkS (List.replicate (n-(f+g)) 102):=by
 rw[show(n:Int)-((f:Int)+(g:Int))=((n-(f+g):Nat):Int) from(Int.ofNat_sub h).symm,show ofString "f"=(⟨#[102]⟩:Str) from by rfl,mul_rep]
 rfl
theorem two_rep (n m:Nat):∀c∈List.replicate n 102++List.replicate m 105,c=102∨c=105:=fun c hc=>by
 rcases List.mem_append.mp hc with h|h
 ·exact .inl (List.eq_of_mem_replicate h)
 ·exact .inr (List.eq_of_mem_replicate h)
section
variable (w:World)(p:Program)(loose:List Str)(mean:ExcName->Option Value)(mg mb:Str->Option Value)
theorem l1_few {h₀:Heap}{L fa:Addr}{cd:Value}{s:Shared}{Q:Flow->Shared->Prop}{E:Value->Shared->Prop}{u:Str->Option Value}{A₀:Around}{base:Heap}{outer:List Env}{dp un:Nat}{gd:Option (List Code)}(B:Below A₀ base outer h₀)(hpre:CodeHd base 213 209)(hdp:dp+30<recursionLimit)(hun:un+120<cLine)(hE:PassesOwn (model Pm w) (lawA dp un gd outer L fa cd) (lawEnv L fa cd) E)(X:(K w.params).In h₀)(T:Top p loose mean mg mb h₀)
  {S Ru:Addr} {o5 o6:Obj} {tk1 tk2 th to tle t5 t6 tf tg tgr tsp:Tok} {kk t f g gr spc:Nat} {hx ox lett T9 sm:List Nat} {x1 x2:Str} {vl vt:Value} {pa nw pl:WsA} {G:Led}
  (d5:o5.data=.cell (some (.str (mkS T9) t5))) (d6:o6.data=.cell (some (.str (mkS sm) t6))) (hln:T9.length=sm.length) (hl2:sm.length<=500) (ht:t<=10) (hgr9:gr<=500) (hs2:∀c∈sm,c=102∨c=105)
  (i1:IntsAre nw.vs (wsOf x1).cs)
  (hfew:(wsOf x2).n<10->levS (mkS T9) (mkS sm) ((gr:Int)-1+(t:Int))=(gr:Int)/\wsEq (wsOf x1) (wsOf (mkS ((sm++[102]).map ledC)))=false/\wsEq (wsOf x1) (wsOf (mkS ((List.replicate (f+g) 105).map ledC)))=((spc:Int)==0)/\f+g<=(wsOf x2).n/\wsEq (wsOf x1) (wsOf (mkS ((List.replicate ((wsOf x2).n-(f+g)) 102++List.replicate (f+g) 105).map ledC)))=decide ((spc:Int)<2))
  (F:Fr h₀ L s.heap (fm u [(ofString "k",.int (kk:Int) tk1),(ofString "turn",.int (t:Int) tk2),(ofString "sizes",.ref S),(ofString "runs",.ref Ru),(ofString "head",.str (mkS hx) th),(ofString "other",.str (mkS ox) to),(ofString "last",vl),(ofString "text",vt),(ofString "letters",.str (mkS lett) tle),(ofString "past",.ref pa.a),(ofString "now",.ref nw.a),(ofString "plain",.ref pl.a),(ofString "first",.int (f:Int) tf),(ofString "others",.int (g:Int) tg),(ofString "great",.int (gr:Int) tgr),(ofString "spaced",.int (spc:Int) tsp)])) (N:News h₀ L s.heap ((nw.a,instObj 189 nw.d)::(nw.d,Uc.wsDq w nw x1)::(nw.P,Uc.wsPq nw x1)::(nw.T,Uc.wsTq nw)::(pl.a,instObj 189 pl.d)::(pl.d,Uc.wsDq w pl x2)::(pl.P,Uc.wsPq pl x2)::(pl.T,Uc.wsTq pl)::(L+5,o5)::(L+6,o6)::G))
  (ret:∀h' tk' u',Fr h₀ L h' (fm u' [(ofString "k",.int (kk:Int) tk1),(ofString "turn",.int (t:Int) tk2),(ofString "sizes",.ref S),(ofString "runs",.ref Ru),(ofString "head",.str (mkS hx) th),(ofString "other",.str (mkS ox) to),(ofString "last",vl),(ofString "text",vt),(ofString "letters",.str (mkS lett) tle),(ofString "past",.ref pa.a),(ofString "now",.ref nw.a),(ofString "plain",.ref pl.a),(ofString "first",.int (f:Int) tf),(ofString "others",.int (g:Int) tg),(ofString "great",.int (gr:Int) tgr),(ofString "spaced",.int (spc:Int) tsp)])->News h₀ L h' ((nw.a,instObj 189 nw.d)::(nw.d,Uc.wsDq w nw x1)::(nw.P,Uc.wsPq nw x1)::(nw.T,Uc.wsTq nw)::(pl.a,instObj 189 pl.d)::(pl.d,Uc.wsDq w pl x2)::(pl.P,Uc.wsPq pl x2)::(pl.T,Uc.wsTq pl)::(L+5,o5)::(L+6,o6)::G)->Q .next { s with heap:=h',toks:=tk' }):
  wpAny (model Pm w) (lawA dp un gd outer L fa cd) (execs [lb12] (lawEnv L fa cd)) Q E s:=by
 revert X
 dsimp only[Pm]
 k_fill
 intro X
 unfold lb12 ld0 ld1 ld2 ld3 ld4
 dsimp only[lawEnv,lawA,lawCl] at hE ⊢
 (refine Uc.letAE ?_;intro AA EE)
 (refine Uc.letF F ?_;clear F;intro NM F)
 have e1:=mkS_len T9
 have e2:=mkS_len sm
 by_cases hn:(wsOf x2).n<10
 ·(refine Uc.ah5 (hfew hn) fun q1 q2 q3 q4 q5=>?_)
  clear hfew
  walk_at "X"
  (refine lev w p loose mean mg mb _ (mkS T9) (mkS sm) _ _ _ ((gr:Int)-1+(t:Int)) (by omega) (by omega) (by omega) (by omega) _ _ _ _ _ _ _ _ _ _ _ _ _ _ _ _ _ ‹_› ‹_› ‹_› ‹_› ‹_› (by first|assumption|rfl) ?pre (by walk_at "r") (by walk_at "u") ?_);(case pre=>first|exact trivial|assumption)
  refine kEn1v ?_
  intro t7 h' tk' F N
  rw[q1]
  walk_at "X"
  rw[show mkS sm++ofString "f"=mkS (sm++[102]) by rw[show ofString "f"=mkS [102] from by rfl];unfold mkS;rw[app2]]
  (refine lead1_c w p loose mean mg mb _ (sm++[102]) _ (by rw[List.length_append];show _+1<=_;omega) (fun c hc=>(List.mem_append.mp hc).elim (hs2 c) (fun e=>.inl (List.mem_singleton.mp e))) _ _ _ _ _ _ _ _ _ _ _ _ _ _ _ _ _ ‹_› ‹_› ‹_› ‹_› ‹_› (by first|assumption|rfl) ?pre (by walk_at "r") (by walk_at "u") ?_);(case pre=>first|exact trivial|assumption)
  intro v n' h' tk' hv F N
  (refine Uc.ex1 hv fun r1=>Uc.an3 fun e1q e2q hI1=>?_;clear hv;subst e1q;subst e2q)
  walk_at "X"
  have N2:=News.sub (b:=(nw.a,instObj 189 nw.d)::(nw.d,Uc.wsDq w nw x1)::(nw.P,Uc.wsPq nw x1)::(nw.T,Uc.wsTq nw)::(r1.a,instObj 189 r1.d)::(r1.d,Uc.wsDq w r1 (mkS ((sm++[102]).map ledC)))::(r1.P,Uc.wsPq r1 (mkS ((sm++[102]).map ledC)))::(r1.T,Uc.wsTq r1)::(pl.a,instObj 189 pl.d)::(pl.d,Uc.wsDq w pl x2)::(pl.P,Uc.wsPq pl x2)::(pl.T,Uc.wsTq pl)::(L+5,o5)::(L+6,o6)::G) N perm44
  clear N
  (refine equal_c w p loose mean mg mb _ x1 (mkS ((sm++[102]).map ledC)) nw r1 i1 hI1 _ _ _ _ _ _ _ _ _ _ _ _ _ _ _ _ _ ‹_› ‹_› ‹_› ‹_› ‹_› (by first|assumption|rfl) ?pre (by walk_at "r") (by walk_at "u") ?_);(case pre=>first|exact trivial|assumption)
  first|refine kE0nv ?_|refine kE0vn ?_
  intro h' tk' F N
  have N3:=News.sub (b:=(nw.a,instObj 189 nw.d)::(nw.d,Uc.wsDq w nw x1)::(nw.P,Uc.wsPq nw x1)::(nw.T,Uc.wsTq nw)::(pl.a,instObj 189 pl.d)::(pl.d,Uc.wsDq w pl x2)::(pl.P,Uc.wsPq pl x2)::(pl.T,Uc.wsTq pl)::(L+5,o5)::(L+6,o6)::G) N drop48
  clear N N2
  rw[q2]
  walk_at "X"
  rw[rep_i]
  (refine lead1_c w p loose mean mg mb _ (List.replicate (f+g) 105) _ (by rw[List.length_replicate];omega) (fun c hc=>.inr (List.eq_of_mem_replicate hc)) _ _ _ _ _ _ _ _ _ _ _ _ _ _ _ _ _ ‹_› ‹_› ‹_› ‹_› ‹_› (by first|assumption|rfl) ?pre (by walk_at "r") (by walk_at "u") ?_);(case pre=>first|exact trivial|assumption)
  intro v n' h' tk' hv F N
  (refine Uc.ex1 hv fun r2=>Uc.an3 fun e1q e2q hI2=>?_;clear hv;subst e1q;subst e2q)
  walk_at "X"
  have N4:=News.sub (b:=(nw.a,instObj 189 nw.d)::(nw.d,Uc.wsDq w nw x1)::(nw.P,Uc.wsPq nw x1)::(nw.T,Uc.wsTq nw)::(r2.a,instObj 189 r2.d)::(r2.d,Uc.wsDq w r2 (mkS ((List.replicate (f+g) 105).map ledC)))::(r2.P,Uc.wsPq r2 (mkS ((List.replicate (f+g) 105).map ledC)))::(r2.T,Uc.wsTq r2)::(pl.a,instObj 189 pl.d)::(pl.d,Uc.wsDq w pl x2)::(pl.P,Uc.wsPq pl x2)::(pl.T,Uc.wsTq pl)::(L+5,o5)::(L+6,o6)::G) N perm44
  clear N
  (refine equal_c w p loose mean mg mb _ x1 (mkS ((List.replicate (f+g) 105).map ledC)) nw r2 i1 hI2 _ _ _ _ _ _ _ _ _ _ _ _ _ _ _ _ _ ‹_› ‹_› ‹_› ‹_› ‹_› (by first|assumption|rfl) ?pre (by walk_at "r") (by walk_at "u") ?_);(case pre=>first|exact trivial|assumption)
  first|refine kE0nv ?_|refine kE0vn ?_
  intro h' tk' F N
  have N5:=News.sub (b:=(nw.a,instObj 189 nw.d)::(nw.d,Uc.wsDq w nw x1)::(nw.P,Uc.wsPq nw x1)::(nw.T,Uc.wsTq nw)::(pl.a,instObj 189 pl.d)::(pl.d,Uc.wsDq w pl x2)::(pl.P,Uc.wsPq pl x2)::(pl.T,Uc.wsTq pl)::(L+5,o5)::(L+6,o6)::G) N drop48
  clear N N4
  rw[q3]
  walk_at "X"
  rw[rep_f _ f g q4,rep_i,show ∀a b:List Nat,mkS a++mkS b=mkS (a++b) from fun a b=>by unfold mkS;rw[app2]]
  (refine lead1_c w p loose mean mg mb _ (List.replicate ((wsOf x2).n-(f+g)) 102++List.replicate (f+g) 105) _ (by rw[List.length_append,List.length_replicate,List.length_replicate];omega) (two_rep _ _) _ _ _ _ _ _ _ _ _ _ _ _ _ _ _ _ _ ‹_› ‹_› ‹_› ‹_› ‹_› (by first|assumption|rfl) ?pre (by walk_at "r") (by walk_at "u") ?_);(case pre=>first|exact trivial|assumption)
  intro v n' h' tk' hv F N
  (refine Uc.ex1 hv fun r3=>Uc.an3 fun e1q e2q hI3=>?_;clear hv;subst e1q;subst e2q)
  walk_at "X"
  have N6:=News.sub (b:=(nw.a,instObj 189 nw.d)::(nw.d,Uc.wsDq w nw x1)::(nw.P,Uc.wsPq nw x1)::(nw.T,Uc.wsTq nw)::(r3.a,instObj 189 r3.d)::(r3.d,Uc.wsDq w r3 (mkS ((List.replicate ((wsOf x2).n-(f+g)) 102++List.replicate (f+g) 105).map ledC)))::(r3.P,Uc.wsPq r3 (mkS ((List.replicate ((wsOf x2).n-(f+g)) 102++List.replicate (f+g) 105).map ledC)))::(r3.T,Uc.wsTq r3)::(pl.a,instObj 189 pl.d)::(pl.d,Uc.wsDq w pl x2)::(pl.P,Uc.wsPq pl x2)::(pl.T,Uc.wsTq pl)::(L+5,o5)::(L+6,o6)::G) N perm44
  clear N
  (refine equal_c w p loose mean mg mb _ x1 (mkS ((List.replicate ((wsOf x2).n-(f+g)) 102++List.replicate (f+g) 105).map ledC)) nw r3 i1 hI3 _ _ _ _ _ _ _ _ _ _ _ _ _ _ _ _ _ ‹_› ‹_› ‹_› ‹_› ‹_› (by first|assumption|rfl) ?pre (by walk_at "r") (by walk_at "u") ?_);(case pre=>first|exact trivial|assumption)
  first|refine kE0nv ?_|refine kE0vn ?_
  intro h' tk' F N
  have N7:=News.sub (b:=(nw.a,instObj 189 nw.d)::(nw.d,Uc.wsDq w nw x1)::(nw.P,Uc.wsPq nw x1)::(nw.T,Uc.wsTq nw)::(pl.a,instObj 189 pl.d)::(pl.d,Uc.wsDq w pl x2)::(pl.P,Uc.wsPq pl x2)::(pl.T,Uc.wsTq pl)::(L+5,o5)::(L+6,o6)::G) N drop48
  clear N N6
  rw[q5]
  walk_at "X"
  exact ret _ _ _ (toFm ‹_› _ ⟨rfl,rfl,rfl,rfl,rfl,rfl,rfl,rfl,rfl,rfl,rfl,rfl,rfl,rfl,rfl,rfl,trivial⟩) ‹_›
 ·walk_at "X"
  exact ret _ _ _ (toFm ‹_› _ ⟨rfl,rfl,rfl,rfl,rfl,rfl,rfl,rfl,rfl,rfl,rfl,rfl,rfl,rfl,rfl,rfl,trivial⟩) ‹_›
end
end Uc
end
section
namespace Uc
open PyProof.Rows.LCg
section
variable (w:World)(p:Program)(loose:List Str)(mean:ExcName->Option Value)(mg mb:Str->Option Value)
theorem l1_blk {h₀:Heap}{L fa:Addr}{cd:Value}{s:Shared}{Q:Flow->Shared->Prop}{E:Value->Shared->Prop}{u:Str->Option Value}{A₀:Around}{base:Heap}{outer:List Env}{dp un:Nat}{gd:Option (List Code)}(B:Below A₀ base outer h₀)(hpre:CodeHd base 213 209)(hdp:dp+30<recursionLimit)(hun:un+120<cLine)(hE:PassesOwn (model Pm w) (lawA dp un gd outer L fa cd) (lawEnv L fa cd) E)(X:(K w.params).In h₀)(T:Top p loose mean mg mb h₀)
  {S Ru:Addr} {o3 o5 o6:Obj} {v06:Option Value} {q:Lex} {LN:Int} {tl t0 tk1 tk2 th to tle:Tok} {pn sn kk t rk:Nat} {ps ss zs rs:List Value} {sr runs:List Nat} {st:St} {hx ox:List Nat} {vl vt:Value} {pa:WsA} {Tl:Led}
  (d3:o3.data=.cell (some (.ref q.X))) (d5:o5.data=.cell (some (.str (mkS st.2.1) t0))) (d6:o6.data=.cell v06)
  (hz:IntsAre zs (sr.map fun(n:Nat)=>(n:Int))) (hr:IntsAre rs (runs.map fun(n:Nat)=>(n:Int))) (hsl:sr.length<=10) (hpm:runs.Perm sr) (hso:sr.Pairwise (· <=·)) (hs9:∀x∈sr,x<=10) (hk:kk<sr.length) (ht:t<=10)
  (hh1:1<=hx.length) (hh2:hx.length<=2) (ho1:1<=ox.length) (ho2:ox.length<=3)
  (hps:StrsAre ps (st.1.map mkS)) (i3:IntsAre pa.vs (wsOf (mkS (st.2.2.map ledC))).cs) (hbk:t<=sr.getD kk 0->blkOk hx.length ox.length sr t kk st=true)
  (okR:LexOk q ((L+5,o5)::(L+6,o6)::(L+3,o3)::(S,lst zs)::(Ru,W.listOf rs.toArray rk)::Tl)) (hl5:∀r∈lexLed w q LN tl [] 0 ss sn,r.1≠L+5/\r.1≠L+6) (ht5:∀r∈(S,lst zs)::(Ru,W.listOf rs.toArray rk)::Tl,r.1≠L+5/\r.1≠L+6)
  {lett:List Nat} (hlt:lett=st.2.2)
  (F:Fr h₀ L s.heap (fm u [(ofString "k",.int (kk:Int) tk1),(ofString "turn",.int (t:Int) tk2),(ofString "sizes",.ref S),(ofString "runs",.ref Ru),(ofString "head",.str (mkS hx) th),(ofString "other",.str (mkS ox) to),(ofString "last",vl),(ofString "text",vt),(ofString "letters",.str (mkS lett) tle),(ofString "past",.ref pa.a)])) (N:News h₀ L s.heap (lexLed w q LN tl ps pn ss sn++((L+5,o5)::(L+6,o6)::(L+3,o3)::(S,lst zs)::(Ru,W.listOf rs.toArray rk)::(pa.a,instObj 189 pa.d)::(pa.d,Uc.wsDq w pa (mkS (st.2.2.map ledC)))::(pa.P,Uc.wsPq pa (mkS (st.2.2.map ledC)))::(pa.T,Uc.wsTq pa)::Tl)))
  (ret:∀h' tk' u' ps' pn' o5' o6' t0' v6' (st':St) (tle:Tok) (pa:WsA) (lett:List Nat),st'=(if t<=sr.getD kk 0 then blockS (sr.getD kk 0-t) st else st)->lett=st'.2.2->o5'.data=.cell (some (.str (mkS st'.2.1) t0'))->o6'.data=.cell v6'->StrsAre ps' (st'.1.map mkS)->IntsAre pa.vs (wsOf (mkS (st'.2.2.map ledC))).cs->
   Fr h₀ L h' (fm u' [(ofString "k",.int (kk:Int) tk1),(ofString "turn",.int (t:Int) tk2),(ofString "sizes",.ref S),(ofString "runs",.ref Ru),(ofString "head",.str (mkS hx) th),(ofString "other",.str (mkS ox) to),(ofString "last",vl),(ofString "text",vt),(ofString "letters",.str (mkS lett) tle),(ofString "past",.ref pa.a)])->News h₀ L h' (lexLed w q LN tl ps' pn' ss sn++((L+5,o5')::(L+6,o6')::(L+3,o3)::(S,lst zs)::(Ru,W.listOf rs.toArray rk)::(pa.a,instObj 189 pa.d)::(pa.d,Uc.wsDq w pa (mkS (st'.2.2.map ledC)))::(pa.P,Uc.wsPq pa (mkS (st'.2.2.map ledC)))::(pa.T,Uc.wsTq pa)::Tl))->Q .next { s with heap:=h',toks:=tk' }):
  wpAny (model Pm w) (lawA dp un gd outer L fa cd) (execs [lk0] (lawEnv L fa cd)) Q E s:=by
 revert X
 dsimp only[Pm]
 k_fill
 intro X
 unfold lk0
 dsimp only[lawEnv,lawA,lawCl] at hE ⊢
 (refine Uc.letAE ?_;intro AA EE)
 (refine Uc.letF F ?_;clear F;intro NM F)
 have hzl:zs.length=sr.length:=by rw[intsAre_len hz,List.length_map]
 have ez:(sr.map fun(n:Nat)=>(n:Int)).getD ((kk:Int)).toNat 0=((sr.getD kk 0:Nat):Int):=by rw[Int.toNat_natCast,getD_nums' hk]
 by_cases htk:t<=sr.getD kk 0
 ·(refine Uc.ex7 (blk_parts (hbk htk)) fun x1 qs1 tot T9 sm f g=>Uc.an10 fun hI9 hT9 hsm eB hf hg hw2 hx19 hq19 hB=>?_)
  clear hbk
  have ht2:(t:Int)<=((sr.getD kk 0:Nat):Int):=by omega
  walk_at "X"
  rename Fr _ _ _ _=>F1
  rename News _ _ _ _=>N0
  have hWm:∀r∈wsLed w (mkS (st.2.2.map ledC)) pa,r∈lexLed w q LN tl ps pn ss sn++((L+5,o5)::(L+6,o6)::(L+3,o3)::(S,lst zs)::(Ru,W.listOf rs.toArray rk)::(pa.a,instObj 189 pa.d)::(pa.d,Uc.wsDq w pa (mkS (st.2.2.map ledC)))::(pa.P,Uc.wsPq pa (mkS (st.2.2.map ledC)))::(pa.T,Uc.wsTq pa)::Tl):=fun r hr=>List.mem_append_right _ (.tail _ (.tail _ (.tail _ (.tail _ (.tail _ (ws_mem r hr))))))
  have hoff:=ws_off N0 (fun r hr=>List.mem_append_left _ hr) hWm
  have hc5:=ws_cell N0 (List.mem_append_right _ (.head _)) d5 hWm
  have hc6:=ws_cell N0 (List.mem_append_right _ (.tail _ (.head _))) d6 hWm
  have okl:=okR.all
  have okT:=off_ws (P:=fun a=>a≠q.D/\a≠q.PB/\a≠q.SG) hoff (fun r hr=>okl r (.tail _ (.tail _ (.tail _ (.tail _ (.tail _ hr))))))
  have htT:=off_ws (P:=fun a=>a≠L+5/\a≠L+6) (fun r hr=>⟨hc5 r hr,hc6 r hr⟩) (fun r hr=>ht5 r (.tail _ (.tail _ hr)))
  have ok5:=okl _ (.head _)
  have ok6:=okl _ (.tail _ (.head _))
  have ok3:=okl _ (.tail _ (.tail _ (.head _)))
  have okS:=okl _ (.tail _ (.tail _ (.tail _ (.head _))))
  have okU:=okl _ (.tail _ (.tail _ (.tail _ (.tail _ (.head _)))))
  have htS:=ht5 _ (.head _)
  have htU:=ht5 _ (.tail _ (.head _))
  have n35:L+3≠L+5:=Nat.ne_of_lt (by omega)
  have n65:L+6≠L+5:=Nat.ne_of_gt (by omega)
  have N1:=News.sub (b:=lexLed w q LN tl ps pn ss sn++((L+5,o5)::(L+3,o3)::(S,lst zs)::(L+6,o6)::(Ru,W.listOf rs.toArray rk)::(pa.a,instObj 189 pa.d)::(pa.d,Uc.wsDq w pa (mkS (st.2.2.map ledC)))::(pa.P,Uc.wsPq pa (mkS (st.2.2.map ledC)))::(pa.T,Uc.wsTq pa)::Tl)) N0 pmA
  clear N0
  have hwk:=hB.wk
  have hq0:=hB.q0
  have hq1:=hB.q1
  rw[if_pos htk] at ret
  refine l1_in w p loose mean mg mb B hpre hdp hun hE X T (n:=sr.getD kk 0-t) (sz:=sr) (qs:=st.1) (tot:=st.2.1) (lett:=lett) (pa:=pa) (Ru:=Ru) d3 d5 hz hk (by omega) (by have:=getD_le hs9 kk;omega) (by omega) hps hq0 hq1 hwk
   (okR.on (cons_off (P:=fun a=>a≠q.D/\a≠q.PB/\a≠q.SG) ok5 (cons_off (P:=fun a=>a≠q.D/\a≠q.PB/\a≠q.SG) ok3 (cons_off (P:=fun a=>a≠q.D/\a≠q.PB/\a≠q.SG) okS (cons_off (P:=fun a=>a≠q.D/\a≠q.PB/\a≠q.SG) ok6 (cons_off (P:=fun a=>a≠q.D/\a≠q.PB/\a≠q.SG) okU okT))))))
   (fun r hr=>(List.mem_append.mp hr).elim (fun h=>(lex_offP (P:=fun a=>a≠L+5/\a≠L+6) hl5 r h).1) (cons_off (P:=fun a=>a≠L+5) n35 (cons_off (P:=fun a=>a≠L+5) htS.1 (cons_off (P:=fun a=>a≠L+5) n65 (cons_off (P:=fun a=>a≠L+5) htU.1 (fun r hr=>(htT r hr).1)))) r)) F1 N1 ?_
  clear F1 N1
  intro h' tk' u' ps1 pn1 o5a t1 d5a hps1 F N
  rw[hI9] at hps1 d5a
  (refine Uc.ex2 (strsAre_cons hps1) fun tv ps2=>Uc.an2 fun e1q hps2=>?_;subst e1q)
  have hp2:=StrsAre.length hps2
  rw[List.length_map] at hp2
  walk_at "H"
  refine execs_app [lb1,lb2,lb3] ?_
  have N2:=News.sub (b:=lexLed w q LN tl (.str (mkS x1) tv::ps2) pn1 ss sn++((L+5,o5a)::(L+6,o6)::(L+3,o3)::(S,lst zs)::(Ru,W.listOf rs.toArray rk)::(pa.a,instObj 189 pa.d)::(pa.d,Uc.wsDq w pa (mkS (st.2.2.map ledC)))::(pa.P,Uc.wsPq pa (mkS (st.2.2.map ledC)))::(pa.T,Uc.wsTq pa)::Tl)) N pmB
  clear N
  have hp9:ps2.length<=100:=by omega
  refine l1_got w p loose mean mg mb B hpre hdp hun hE X T (lett:=lett) (pa:=pa) (Ru:=Ru) (S:=S) (tot:=tot) (x1:=x1) d3 d5a d6 hp9 hw2 hx19 (hT9▸hB.ltr)
   (okR.on (cons_off (P:=fun a=>a≠q.D/\a≠q.PB/\a≠q.SG) ok5 (cons_off (P:=fun a=>a≠q.D/\a≠q.PB/\a≠q.SG) ok6 (cons_off (P:=fun a=>a≠q.D/\a≠q.PB/\a≠q.SG) ok3 (cons_off (P:=fun a=>a≠q.D/\a≠q.PB/\a≠q.SG) okS (cons_off (P:=fun a=>a≠q.D/\a≠q.PB/\a≠q.SG) okU okT))))))
   hl5 (cons_off (P:=fun a=>a≠L+5/\a≠L+6) htS (cons_off (P:=fun a=>a≠L+5/\a≠L+6) htU htT)) F N2 ?_
  clear N2 F hps1 d5a
  intro h' tk' u' pn2 o5b o6b t5 t6 nw d5b d6b i1 F N
  dsimp only
  rw[<-hT9, <-hsm] at d6b i1 N
  rw[<-hT9] at d5b
  have hlen:T9.length=sm.length:=by rw[hsm,List.length_map]
  have hT100:=hB.T9
  have hl100:=hB.l1
  rw[<-hlt] at hl100
  refine execs_app [lb4,lb5] ?_
  have N3:=News.sub N (pmC (n1:=(nw.a,_)) (n2:=(nw.d,_)) (n3:=(nw.P,_)) (n4:=(nw.T,_)) (l:=lexLed w q LN tl ps2 pn2 ss sn) (c5:=(L+5,o5b)) (c6:=(L+6,o6b)) (c3:=(L+3,o3)) (S:=(S,lst zs)) (R:=(Ru,W.listOf rs.toArray rk)) (a1:=(pa.a,_)) (a2:=(pa.d,_)) (a3:=(pa.P,_)) (a4:=(pa.T,_)) (T:=Tl))
  clear N
  refine l1_due w p loose mean mg mb B hpre hdp hun hE X T (f:=f) (g:=g) (lett:=lett) (pa:=pa) (nw:=nw) (Ru:=Ru) (S:=S) hr (by rw[hpm.length_eq];exact hsl) hpm hso hs9 hk htk hh1 (by omega) ho1 ho2 hf.symm (by rw[<-hg, <-hf];rfl) hB.f9 hB.g9 F N3 ?_
  clear N3 F
  intro h' tk' u' tf tg pl i2 F N
  dsimp only
  refine execs_app [lb6,lb7] ?_
  have N4:=News.sub N (pmD (p1:=(pl.a,_)) (p2:=(pl.d,_)) (p3:=(pl.P,_)) (p4:=(pl.T,_)) (n1:=(nw.a,_)) (n2:=(nw.d,_)) (n3:=(nw.P,_)) (n4:=(nw.T,_)) (l:=lexLed w q LN tl ps2 pn2 ss sn) (c5:=(L+5,o5b)) (c6:=(L+6,o6b)) (c3:=(L+3,o3)) (S:=(S,lst zs)) (R:=(Ru,W.listOf rs.toArray rk)) (a1:=(pa.a,_)) (a2:=(pa.d,_)) (a3:=(pa.P,_)) (a4:=(pa.T,_)) (T:=Tl))
  clear N
  refine l1_eq w p loose mean mg mb B hpre hdp hun hE X T (sm:=sm) (lett:=lett) (pa:=pa) (nw:=nw) (pl:=pl) (Ru:=Ru) (S:=S) d6b i1 i2 i3 hB.e1 hB.e2 (by rw[levS_mk,hlt];exact hB.lv) (by omega) (by omega) ht F N4 ?_
  clear N4 F
  intro h' tk' u' F N
  dsimp only
  refine execs_app [lb8,lb9] ?_
  have N5:=News.sub N (pmE (p1:=(pl.a,_)) (p2:=(pl.d,_)) (p3:=(pl.P,_)) (p4:=(pl.T,_)) (n1:=(nw.a,_)) (n2:=(nw.d,_)) (n3:=(nw.P,_)) (n4:=(nw.T,_)) (l:=lexLed w q LN tl ps2 pn2 ss sn) (c5:=(L+5,o5b)) (c6:=(L+6,o6b)) (c3:=(L+3,o3)) (S:=(S,lst zs)) (R:=(Ru,W.listOf rs.toArray rk)) (a1:=(pa.a,_)) (a2:=(pa.d,_)) (a3:=(pa.P,_)) (a4:=(pa.T,_)) (T:=Tl))
  clear N
  have hf9:=hB.f9
  have hg9:=hB.g9
  refine l1_cost w p loose mean mg mb B hpre hdp hun hE X T (gr:=f*hx.length) (spc:=spcOf hx.length ox.length f g) (T9:=T9) (sm:=sm) (lett:=lett) (pa:=pa) (nw:=nw) (pl:=pl) (Ru:=Ru) (S:=S) d5b d6b hlen (by omega) hh1 (by omega) ho1 ho2 hf9 hg9 rfl rfl hB.ct F N5 ?_
  clear F
  intro h' tk' u' tgr tsp F N
  dsimp only
  refine execs_app [lb10,lb11] ?_
  have hm1:f*hx.length<=100:=Nat.le_trans (Nat.mul_le_mul hf9 hh2) (by decide)
  have hm2:spcOf hx.length ox.length f g<=500:=by
   unfold spcOf
   have a:f*(hx.length-1)<=50*1:=Nat.mul_le_mul hf9 (by omega)
   have b:g*min (ox.length-1) 1<=50*1:=Nat.mul_le_mul hg9 (Nat.min_le_right _ _)
   omega
  refine l1_bsd w p loose mean mg mb B hpre hdp hun hE X T (gr:=f*hx.length) (spc:=spcOf hx.length ox.length f g) (T9:=T9) (sm:=sm) (lett:=lett) (pa:=pa) (nw:=nw) (pl:=pl) (Ru:=Ru) (S:=S) d5b d6b hlen (by omega) hB.s1 hf9 hm2 hh1 hh2 hB.bs F N ?_
  clear F N
  intro h' tk' u' F N
  dsimp only
  refine execs_app [lb12] ?_
  have N6:=News.sub N (pmF (p1:=(pl.a,_)) (p2:=(pl.d,_)) (p3:=(pl.P,_)) (p4:=(pl.T,_)) (n1:=(nw.a,_)) (n2:=(nw.d,_)) (n3:=(nw.P,_)) (n4:=(nw.T,_)) (l:=lexLed w q LN tl ps2 pn2 ss sn) (c5:=(L+5,o5b)) (c6:=(L+6,o6b)) (c3:=(L+3,o3)) (S:=(S,lst zs)) (R:=(Ru,W.listOf rs.toArray rk)) (T:=Tl))
  clear N N5
  refine l1_few w p loose mean mg mb B hpre hdp hun hE X T (gr:=f*hx.length) (spc:=spcOf hx.length ox.length f g) (T9:=T9) (sm:=sm) (lett:=lett) (pa:=pa) (nw:=nw) (pl:=pl) (Ru:=Ru) (S:=S) d5b d6b hlen (by omega) ht (by omega) (by rw[hsm];exact low_two hB.ltr) i1 (fun hn=>by rw[levS_mk];exact few_get (hB.fw hn)) F N6 ?_
  clear F N6
  intro h' tk' u' F N
  dsimp only
  unfold lb13
  walk_at "X"
  rename News _ _ _ _=>N9
  exact ret _ _ _ ps2 pn2 o5b o6b t5 _ (blockS (sr.getD kk 0-t) st) _ nw sm rfl (by rw[eB]) (by rw[eB];exact d5b) d6b (by rw[eB];exact hps2) (by rw[eB];exact i1) (toFm ‹_› _ ⟨rfl,rfl,rfl,rfl,rfl,rfl,rfl,rfl,rfl,rfl,trivial⟩) (by rw[eB];exact News.sub N9 fun r hr=>.tail _ (pmG r hr))
 ·have ht2:¬ (t:Int)<=((sr.getD kk 0:Nat):Int):=by omega
  walk_at "X"
  exact ret _ _ _ ps pn o5 o6 t0 v06 st _ pa lett (if_neg htk).symm hlt d5 d6 hps i3 ‹_› ‹_›
end
end Uc
end
section
namespace Uc
open PyProof.Rows.LCg
theorem hideL {h₀ h:Heap}{L:Addr}{c:Addr×Obj}{l:Led}(N:News h₀ L h l)(R:Led)(hs:∀p∈c::R,p∈l):∃G,G=R/\News h₀ L h (c::G):=⟨R,rfl,News.sub N hs⟩
theorem pmI {α:Type}{c n1 n2 n3 n4:α}{r:List α}:∀p∈c::n1::n2::n3::n4::r,p∈n1::n2::n3::n4::c::r:=subL [[n1],[n2],[n3],[n4],[c]] [0,1,2,3,4] [4,0,1,2,3] rfl r
theorem pmJ {α:Type}{c5 c6 c3 S R a1 a2 a3 a4:α}{l T:List α}:∀p∈l++(c5::c6::c3::S::R::a1::a2::a3::a4::T),p∈c5::a1::a2::a3::a4::(l++(c6::c3::S::R::T)):=subL [[c5],[a1],[a2],[a3],[a4],l,[c6],[c3],[S],[R]] [0,1,2,3,4,5,6,7,8,9] [5,0,6,7,8,9,1,2,3,4] rfl T
theorem pmK {α:Type}{c5 c6 c3 S R a1 a2 a3 a4:α}{l T:List α}:∀p∈l++(c5::c6::c3::S::R::T),p∈l++(c5::c6::c3::S::R::a1::a2::a3::a4::T):=subL [l,[c5],[c6],[c3],[S],[R],[a1],[a2],[a3],[a4]] [0,1,2,3,4,5,6,7,8,9] [0,1,2,3,4,5] rfl T
theorem ws_elim {w:World}{x:Str}{a:WsA}{l:Led}{P:Addr×Obj->Prop}(h1:∀r∈wsLed w x a,P r)(h2:∀r∈l,P r):∀r∈(a.a,instObj 189 a.d)::(a.d,Uc.wsDq w a x)::(a.P,Uc.wsPq a x)::(a.T,Uc.wsTq a)::l,P r:=fun r hr=>(List.mem_append.mp (show r∈wsLed w x a++l from hr)).elim (h1 r) (h2 r)
theorem rnd_get {hl ol:Nat}{sr:List Nat}{t k:Nat}{s:St}(h:rndOk hl ol sr t s=true)(hk:k<sr.length):t<=sr.getD k 0->blkOk hl ol sr t k (stK sr t s k)=true:=fun ht=>by
 have:=List.all_eq_true.mp h k (List.mem_range.mpr hk)
 rw[Bool.or_eq_true,decide_eq_true_iff] at this
 exact this.resolve_left (by omega)
theorem ha_rnd {w:World}{q:Lex}{LN:Int}{tl:Tok}{ps ps' ss:List Value}{pn pn' sn:Nat}{c5 c6 a3 aS aU:Addr}{o5 o6 o5' o6' o3 oS oU:Obj}{x x':Str}{pa pa':WsA}{Tl:Led}:∀p∈lexLed w q LN tl ps' pn' ss sn++((c5,o5')::(c6,o6')::(a3,o3)::(aS,oS)::(aU,oU)::(pa'.a,instObj 189 pa'.d)::(pa'.d,Uc.wsDq w pa' x')::(pa'.P,Uc.wsPq pa' x')::(pa'.T,Uc.wsTq pa')::Tl),p.1∈(lexLed w q LN tl ps pn ss sn++((c5,o5)::(c6,o6)::(a3,o3)::(aS,oS)::(aU,oU)::(pa.a,instObj 189 pa.d)::(pa.d,Uc.wsDq w pa x)::(pa.P,Uc.wsPq pa x)::(pa.T,Uc.wsTq pa)::Tl)).map (·.1)∨isIt p.2=false:=fun p hp=>by
 rcases List.mem_append.mp hp with hp|hp
 ·exact .inl (lex_offP (P:=fun a=>a∈(lexLed w q LN tl ps pn ss sn++((c5,o5)::(c6,o6)::(a3,o3)::(aS,oS)::(aU,oU)::(pa.a,instObj 189 pa.d)::(pa.d,Uc.wsDq w pa x)::(pa.P,Uc.wsPq pa x)::(pa.T,Uc.wsTq pa)::Tl)).map (·.1)) (fun r hr=>List.mem_map_of_mem (List.mem_append_left _ hr)) p hp)
 rcases List.mem_cons.mp hp with rfl|hp
 ·exact .inl (List.mem_map.mpr ⟨(c5,o5),List.mem_append_right _ (.head _),rfl⟩)
 rcases List.mem_cons.mp hp with rfl|hp
 ·exact .inl (List.mem_map.mpr ⟨(c6,o6),List.mem_append_right _ (.tail _ (.head _)),rfl⟩)
 rcases List.mem_cons.mp hp with rfl|hp
 ·exact .inl (List.mem_map.mpr ⟨(a3,o3),List.mem_append_right _ (.tail _ (.tail _ (.head _))),rfl⟩)
 rcases List.mem_cons.mp hp with rfl|hp
 ·exact .inl (List.mem_map.mpr ⟨(aS,oS),List.mem_append_right _ (.tail _ (.tail _ (.tail _ (.head _)))),rfl⟩)
 rcases List.mem_cons.mp hp with rfl|hp
 ·exact .inl (List.mem_map.mpr ⟨(aU,oU),List.mem_append_right _ (.tail _ (.tail _ (.tail _ (.tail _ (.head _))))),rfl⟩)
 ·exact ws_elim (P:=fun r=>r.1∈(lexLed w q LN tl ps pn ss sn++((c5,o5)::(c6,o6)::(a3,o3)::(aS,oS)::(aU,oU)::(pa.a,instObj 189 pa.d)::(pa.d,Uc.wsDq w pa x)::(pa.P,Uc.wsPq pa x)::(pa.T,Uc.wsTq pa)::Tl)).map (·.1)∨isIt r.2=false) (fun r hr=>.inr (ws_notIt r hr)) (fun r hr=>.inl (List.mem_map_of_mem (List.mem_append_right _ (.tail _ (.tail _ (.tail _ (.tail _ (.tail _ (.tail _ (.tail _ (.tail _ (.tail _ hr)))))))))))) p hp
theorem pmH {α:Type}{c:α}{l r:List α}:∀p∈c::(l++r),p∈l++(c::r):=subL [l,[c]] [0,1] [1,0] rfl r
section
variable (w:World)(p:Program)(loose:List Str)(mean:ExcName->Option Value)(mg mb:Str->Option Value)
theorem l1_rnd {h₀:Heap}{L fa:Addr}{cd:Value}{s:Shared}{Q:Flow->Shared->Prop}{E:Value->Shared->Prop}{u:Str->Option Value}{A₀:Around}{base:Heap}{outer:List Env}{dp un:Nat}{gd:Option (List Code)}(B:Below A₀ base outer h₀)(hpre:CodeHd base 213 209)(hdp:dp+30<recursionLimit)(hun:un+120<cLine)(hE:PassesOwn (model Pm w) (lawA dp un gd outer L fa cd) (lawEnv L fa cd) E)(X:(K w.params).In h₀)(T:Top p loose mean mg mb h₀)
  {S Ru:Addr} {o3 o5 o6:Obj} {v05 v06:Option Value} {q:Lex} {LN:Int} {tl tk2 th to:Tok} {pn sn t rk:Nat} {ps ss zs rs:List Value} {sr runs:List Nat} {qs:List (List Nat)} {hx ox:List Nat} {vl vt:Value} {Tl:Led}
  (d3:o3.data=.cell (some (.ref q.X))) (d5:o5.data=.cell v05) (d6:o6.data=.cell v06)
  (hz:IntsAre zs (sr.map fun(n:Nat)=>(n:Int))) (hr:IntsAre rs (runs.map fun(n:Nat)=>(n:Int))) (hsl:sr.length<=10) (hpm:runs.Perm sr) (hso:sr.Pairwise (· <=·)) (hs9:∀x∈sr,x<=10) (ht:t<=10)
  (hh1:1<=hx.length) (hh2:hx.length<=2) (ho1:1<=ox.length) (ho2:ox.length<=3)
  (hps:StrsAre ps (qs.map mkS)) (hrn:rndOk hx.length ox.length sr t (qs,[],[])=true)
  (okR:LexOk q ((L+5,o5)::(L+6,o6)::(L+3,o3)::(S,lst zs)::(Ru,W.listOf rs.toArray rk)::Tl)) (hl5:∀r∈lexLed w q LN tl [] 0 ss sn,r.1≠L+5/\r.1≠L+6) (ht5:∀r∈(S,lst zs)::(Ru,W.listOf rs.toArray rk)::Tl,r.1≠L+5/\r.1≠L+6)
  (F:Fr h₀ L s.heap (fm u [(ofString "turn",.int (t:Int) tk2),(ofString "sizes",.ref S),(ofString "runs",.ref Ru),(ofString "head",.str (mkS hx) th),(ofString "other",.str (mkS ox) to),(ofString "last",vl),(ofString "text",vt)])) (N:News h₀ L s.heap (lexLed w q LN tl ps pn ss sn++((L+5,o5)::(L+6,o6)::(L+3,o3)::(S,lst zs)::(Ru,W.listOf rs.toArray rk)::Tl)))
  (ret:∀h' tk' u' ps' pn' o5' o6' v5' v6',o5'.data=.cell v5'->o6'.data=.cell v6'->StrsAre ps' ((stK sr t (qs,[],[]) sr.length).1.map mkS)->
   Fr h₀ L h' (fm u' [(ofString "sizes",.ref S),(ofString "runs",.ref Ru),(ofString "head",.str (mkS hx) th),(ofString "other",.str (mkS ox) to),(ofString "last",vl),(ofString "text",vt)])->News h₀ L h' (lexLed w q LN tl ps' pn' ss sn++((L+5,o5')::(L+6,o6')::(L+3,o3)::(S,lst zs)::(Ru,W.listOf rs.toArray rk)::Tl))->Q .next { s with heap:=h',toks:=tk' }):
  wpAny (model Pm w) (lawA dp un gd outer L fa cd) (execs [lr0,lr1] (lawEnv L fa cd)) Q E s:=by
 revert X
 dsimp only[Pm]
 k_fill
 intro X
 unfold lr0
 dsimp only[lawEnv,lawA,lawCl] at hE ⊢
 (refine Uc.letAE ?_;intro AA EE)
 (refine Uc.letF F ?_;clear F;intro NM F)
 have n35:L+3≠L+5:=Nat.ne_of_lt (by omega)
 have n65:L+6≠L+5:=Nat.ne_of_gt (by omega)
 obtain⟨G,hG,N0⟩:=hideL N (lexLed w q LN tl ps pn ss sn++((L+6,o6)::(L+3,o3)::(S,lst zs)::(Ru,W.listOf rs.toArray rk)::Tl)) pmH
 have hG5:∀r∈G,r.1≠L+5:=by
  rw[hG]
  exact fun r hr=>(List.mem_append.mp hr).elim (fun h=>(lex_offP (P:=fun a=>a≠L+5/\a≠L+6) hl5 r h).1) (cons_off (P:=fun a=>a≠L+5) n65 (cons_off (P:=fun a=>a≠L+5) n35 (fun r hr=>(ht5 r hr).1)) r)
 clear N
 walk_at "X"
 (refine ws_make w p loose mean mg mb _ (ofString "") _ (by decide) _ _ _ _ _ _ _ _ _ _ _ _ _ _ _ _ _ ‹_› ‹_› ‹_› ‹_› ‹_› (by first|assumption|rfl) ?pre (by walk_at "r") (by walk_at "u") ?_);(case pre=>first|exact trivial|assumption)
 first|refine kE13nvp ?_|refine kE13vnp ?_
 intro a d P T' vs tn tt2 tb k0 k1 k2 k3 k4 h' tk' hvs F N
 obtain⟨pa,hpa⟩:∃pa:WsA,pa=⟨a,d,P,T',vs,s.toks+1+1,tn,tt2,tb,k0,k1,k2,k3,k4⟩:=⟨_,rfl⟩
 have N1:News h₀ L h' ((pa.a,instObj 189 pa.d)::(pa.d,Uc.wsDq w pa (mkS (([]:List Nat).map ledC)))::(pa.P,Uc.wsPq pa (mkS (([]:List Nat).map ledC)))::(pa.T,Uc.wsTq pa)::(L+5,o5)::G):=by rw[hpa];exact N
 have i3:IntsAre pa.vs (wsOf (mkS (([]:List Nat).map ledC))).cs:=by rw[hpa];exact hvs
 have ea:a=pa.a:=by rw[hpa]
 clear N hvs hpa
 subst ea
 have hc5:=ws_cell N1 (.tail _ (.tail _ (.tail _ (.tail _ (.head _))))) d5 ws_mem
 obtain⟨G2,hG2,N2⟩:=hideL N1 ((pa.a,instObj 189 pa.d)::(pa.d,Uc.wsDq w pa (mkS (([]:List Nat).map ledC)))::(pa.P,Uc.wsPq pa (mkS (([]:List Nat).map ledC)))::(pa.T,Uc.wsTq pa)::G) pmI
 have hG25:∀r∈G2,r.1≠L+5:=by rw[hG2];exact off_ws (P:=fun a=>a≠L+5) hc5 hG5
 clear N1
 walk_at "X"
 rename Fr _ _ _ _=>F3
 rename News _ _ _ _=>N3
 rename (_=Data.cell (some (Value.str (ofString "") _)))=>d5a
 have okl:=okR.all
 have N4:=News.sub (b:=(lexLed w q LN tl ps pn ss sn++((L+5,_)::(L+6,o6)::(L+3,o3)::(S,lst zs)::(Ru,W.listOf rs.toArray rk)::(pa.a,instObj 189 pa.d)::(pa.d,Uc.wsDq w pa (mkS (([]:List Nat).map ledC)))::(pa.P,Uc.wsPq pa (mkS (([]:List Nat).map ledC)))::(pa.T,Uc.wsTq pa)::Tl))) N3 (fun r hr=>.tail _ (by rw[hG2,hG];exact pmJ r hr))
 clear N3 hG25 hG5
 obtain⟨u9,tle,F4⟩:∃(u9:Str->Option Value) (tle:Tok),Fr h₀ L _ (fm u9 [(ofString "turn",.int (t:Int) tk2),(ofString "sizes",.ref S),(ofString "runs",.ref Ru),(ofString "head",.str (mkS hx) th),(ofString "other",.str (mkS ox) to),(ofString "last",vl),(ofString "text",vt),(ofString "letters",.str (mkS []) tle),(ofString "past",.ref pa.a)]):=⟨_,_,toFm F3 _ ⟨rfl,rfl,rfl,rfl,rfl,rfl,rfl,rfl,rfl,trivial⟩⟩
 clear F3
 unfold lr1
 refine For_invV (hE:=hE) h₀ (by rfl) (by rfl) ?_
 have hzl:zs.length=sr.length:=by rw[intsAre_len hz,List.length_map]
 walk_at "X"
 refine kun_lenL (k:=(sr.length:Int)) (News.isList N4 (List.mem_append_right _ (.tail _ (.tail _ (.tail _ (.head _)))))) (by simp only[List.size_toArray];rw[hzl]) (by omega) ?_
 walk_at "X"
 rename Fr _ _ _ _=>F9
 rename News _ _ _ _=>N9
 rename IsRange _ _ _ _ _ _ _ _=>hr9
 refine iter_to (σ:=List Value×Nat×Obj×Obj×List Nat×Tok×WsA) sr.length (fun c=>(lexLed w q LN tl c.1 c.2.1 ss sn++((L+5,c.2.2.1)::(L+6,c.2.2.2.1)::(L+3,o3)::(S,lst zs)::(Ru,W.listOf rs.toArray rk)::(c.2.2.2.2.2.2.a,instObj 189 c.2.2.2.2.2.2.d)::(c.2.2.2.2.2.2.d,Uc.wsDq w c.2.2.2.2.2.2 (mkS (c.2.2.2.2.1.map ledC)))::(c.2.2.2.2.2.2.P,Uc.wsPq c.2.2.2.2.2.2 (mkS (c.2.2.2.2.1.map ledC)))::(c.2.2.2.2.2.2.T,Uc.wsTq c.2.2.2.2.2.2)::Tl))) (fun c=>[(ofString "turn",.int (t:Int) tk2),(ofString "sizes",.ref S),(ofString "runs",.ref Ru),(ofString "head",.str (mkS hx) th),(ofString "other",.str (mkS ox) to),(ofString "last",vl),(ofString "text",vt),(ofString "letters",.str (mkS c.2.2.2.2.1) c.2.2.2.2.2.1),(ofString "past",.ref c.2.2.2.2.2.2.a)])
  (fun k c=>c.2.2.2.2.1=(stK sr t (qs,[],[]) k).2.2/\StrsAre c.1 ((stK sr t (qs,[],[]) k).1.map mkS)/\(∃t1,c.2.2.1.data=.cell (some (.str (mkS (stK sr t (qs,[],[]) k).2.1) t1)))/\(∃v,c.2.2.2.1.data=.cell v)/\IntsAre c.2.2.2.2.2.2.vs (wsOf (mkS (c.2.2.2.2.1.map ledC))).cs) (ps,pn,_,o6,[],tle,pa) rfl hr9 rfl (by omega) F9 N9 ⟨rfl,rfl,rfl,rfl,rfl,rfl,rfl,rfl,rfl,trivial⟩ ⟨rfl,hps,⟨_,d5a⟩,⟨_,d6⟩,i3⟩ ?turn ?done
 case turn=>
  clear F9 N9
  intro k ti
  refine fpLoooooooR fun ps1 pn1 o5b o6b lett tle pa=>?_
  intro u1 h1 tk1 I o hk hR hne hit F N
  obtain⟨hR1,hR2,⟨t1,hR3⟩,⟨v6,hR4⟩,hR5⟩:=hR
  dsimp only at hR1 hR2 hR3 hR4 hR5 hne F N ⊢
  subst hR1
  have hI:=lex_off1 (oD:=o) hne
  have hI1:=hI _ (.head _)
  have hI5:I≠L+5:=(hne (L+5,o5b) (List.mem_append_right _ (.head _))).symm
  have hI6:I≠L+6:=(hne (L+6,o6b) (List.mem_append_right _ (.tail _ (.head _)))).symm
  obtain⟨u2,F2⟩:∃u2,Fr h₀ L h1 (fm u2 [(ofString "k",.int (k:Int) ti),(ofString "turn",.int (t:Int) tk2),(ofString "sizes",.ref S),(ofString "runs",.ref Ru),(ofString "head",.str (mkS hx) th),(ofString "other",.str (mkS ox) to),(ofString "last",vl),(ofString "text",vt),(ofString "letters",.str (mkS (stK sr t (qs,[],[]) k).2.2) tle),(ofString "past",.ref pa.a)]):=⟨_,toFm F _ ⟨rfl,rfl,rfl,rfl,rfl,rfl,rfl,rfl,rfl,rfl,trivial⟩⟩
  clear F
  rw[List.append_assoc] at N
  replace N:News h₀ L h1 (lexLed w q LN tl ps1 pn1 ss sn++((L+5,o5b)::(L+6,o6b)::(L+3,o3)::(S,lst zs)::(Ru,W.listOf rs.toArray rk)::(pa.a,instObj 189 pa.d)::(pa.d,Uc.wsDq w pa (mkS ((stK sr t (qs,[],[]) k).2.2.map ledC)))::(pa.P,Uc.wsPq pa (mkS ((stK sr t (qs,[],[]) k).2.2.map ledC)))::(pa.T,Uc.wsTq pa)::(Tl++[(I,o)]))):=N
  intro Z9 hZ9
  refine l1_blk w p loose mean mg mb B hpre hdp hun hE X T (kk:=k) (t:=t) (tk1:=ti) (st:=stK sr t (qs,[],[]) k) (pa:=pa) (Tl:=Tl++[(I,o)]) (runs:=runs) (sr:=sr) (lett:=(stK sr t (qs,[],[]) k).2.2) d3 hR3 hR4 hz hr hsl hpm hso hs9 hk ht hh1 hh2 ho1 ho2 hR2 hR5 (rnd_get hrn hk)
   (okR.on (cons_off (P:=fun a=>a≠q.D/\a≠q.PB/\a≠q.SG) (okl (L+5,o5) (.head _)) (cons_off (P:=fun a=>a≠q.D/\a≠q.PB/\a≠q.SG) (okl (L+6,o6) (.tail _ (.head _))) (cons_off (P:=fun a=>a≠q.D/\a≠q.PB/\a≠q.SG) (okl _ (.tail _ (.tail _ (.head _)))) (cons_off (P:=fun a=>a≠q.D/\a≠q.PB/\a≠q.SG) (okl _ (.tail _ (.tail _ (.tail _ (.head _))))) (cons_off (P:=fun a=>a≠q.D/\a≠q.PB/\a≠q.SG) (okl _ (.tail _ (.tail _ (.tail _ (.tail _ (.head _)))))) (fun r hr=>(List.mem_append.mp hr).elim (fun h=>okl r (.tail _ (.tail _ (.tail _ (.tail _ (.tail _ h)))))) (fun h=>hI r h))))))))
   hl5 (cons_off (P:=fun a=>a≠L+5/\a≠L+6) (ht5 _ (.head _)) (cons_off (P:=fun a=>a≠L+5/\a≠L+6) (ht5 _ (.tail _ (.head _))) (fun r hr=>(List.mem_append.mp hr).elim (fun h=>ht5 r (.tail _ (.tail _ h))) (fun h=>by rw[List.mem_singleton.mp h];exact⟨hI5,hI6⟩)))) rfl F2 N ?_
  clear F2 N
  intro h' tk' u' ps2 pn2 o5c o6c t2 v2 st2 tle2 pa2 lett2 hst hl2 d5c d6c hps2 i2 F N
  subst hl2
  have hst3:st2=stK sr t (qs,[],[]) (k+1):=hst
  refine hZ9 _ _ ?_
  dsimp only
  refine Turn.next (ps2,pn2,o5c,o6c,st2.2.2,tle2,pa2) F N (fun r hr=>by rw[List.append_assoc] at hr;exact hr) ha_rnd ⟨rfl,rfl,rfl,rfl,rfl,rfl,rfl,rfl,rfl,trivial⟩ ⟨by rw[hst3],by rw[<-hst3];exact hps2,⟨t2,by rw[<-hst3];exact d5c⟩,⟨v2,d6c⟩,i2⟩
 case done=>
  clear F9 N9
  refine fpLoooooooR fun ps1 pn1 o5b o6b lett tle pa=>?_
  intro u1 h1 tk1 hR F N
  obtain⟨hR1,hR2,⟨t1,hR3⟩,⟨v6,hR4⟩,hR5⟩:=hR
  dsimp only at hR1 hR2 hR3 hR4 hR5 F N ⊢
  walk_at "X"
  exact ret _ _ _ ps1 pn1 o5b o6b _ _ hR3 hR4 hR2 (toFm ‹_› _ ⟨rfl,rfl,rfl,rfl,rfl,rfl,trivial⟩) (News.sub N pmK)
end
end Uc
end
section
namespace Uc
open PyProof.Rows.LCg
theorem News.sub4 {l:Led}{w:World}{x:Str}{q:WsA}(h:∀r∈wsLed w x q,r∈l):∀r∈(q.a,instObj 189 q.d)::(q.d,Uc.wsDq w q x)::(q.P,Uc.wsPq q x)::(q.T,Uc.wsTq q)::l,r∈l:=fun r hr=>(List.mem_append.mp (show r∈wsLed w x q++l from hr)).elim (h r) id
noncomputable def Ahd (wl:List (List Nat×Nat))(lx cs:List Nat):Prop:=∃ws,(∀c∈ws,isWs c=true)/\cs=ws++((wl.map fun p=>spelled p.1 p.2).flatten++lx)
set_option tactic.hygienic true in
theorem ahd_next {x:List Nat}{n:Nat}{wl:List (List Nat×Nat)}{lx cs:List Nat}(h:Ahd ((x,n)::wl) lx cs)(hx:∀c∈x,c=102∨c=105∨c=70∨c=73):∃cs',Ahd wl lx cs'/\tokGo cs=(rawOf x n,cs'):=by
 (refine Uc.ex1 h fun ws=>Uc.an2 fun hw e1q=>?_;clear h;subst e1q)
 (refine Uc.ex1 (read_next x n ((wl.map fun p=>spelled p.1 p.2).flatten++lx) hx ws hw) fun ws'=>Uc.an2 fun hw' e=>?_)
 refine⟨ws'++((wl.map fun p=>spelled p.1 p.2).flatten++lx),⟨ws',hw',rfl⟩,?_⟩
 rw[<-e]
 show tokGo (ws++((spelled x n++(wl.map fun p=>spelled p.1 p.2).flatten)++lx))=_
 rw[List.append_assoc]
section
variable (w:World)(p:Program)(loose:List Str)(mean:ExcName->Option Value)(mg mb:Str->Option Value)
theorem l1_seg12 {h₀:Heap}{L fa:Addr}{cd:Value}{s:Shared}{Q:Flow->Shared->Prop}{E:Value->Shared->Prop}{u:Str->Option Value}{A₀:Around}{base:Heap}{outer:List Env}{dp un:Nat}{gd:Option (List Code)}(B:Below A₀ base outer h₀)(hpre:CodeHd base 213 209)(hdp:dp+30<recursionLimit)(hun:un+120<cLine)(hE:PassesOwn (model Pm w) (lawA dp un gd outer L fa cd) (lawEnv L fa cd) E)(X:(K w.params).In h₀)(T:Top p loose mean mg mb h₀)
  {o3:Obj} {x:Str} {a8:WsA} {tb:Tok} {tps:Array Value} {q:Lex} {tl:Tok} {pn sn:Nat} {ss:List Value} {cs lx:List Nat} {LN:Int} {wl:List (List Nat×Nat)} {v1 v2 v3 v4 v5 v6:Value} {R:Led} (d3:o3.data=.cell (some (.ref q.X)))
  (hn:((wsOf x).n:Int)-((wsOf x).b:Int)=(wl.length:Int)) (hwl:wl.length<=9) (hwx:∀y∈wl,y.1.length<=8/\∀c∈y.1,c=102∨c=105∨c=70∨c=73) (hss:StrsAre ss (chrs cs)) (hA:Ahd wl lx cs) (hlen:cs.length<=1000) (hLN:(cs.count 10:Int)<=LN/\LN<=100000)
  (hW:∀r∈wsLed w x a8,r∈R) (ok:LexOk q ((209,tabObj tps)::(L+3,o3)::R))
  (F:Fr h₀ L s.heap (fm u [(ofString "behind",.int ((wsOf x).b:Int) tb),(ofString "lead",.ref a8.a),(ofString "sizes",v1),(ofString "runs",v2),(ofString "head",v3),(ofString "other",v4),(ofString "last",v5),(ofString "text",v6)])) (N:News h₀ L s.heap (lexLed w q (LN-cs.count 10) tl [] pn ss sn++((209,tabObj tps)::(L+3,o3)::R)))
  (ret:∀h' tk' tl pn ss sn cs' u' vs,StrsAre ss (chrs cs')->Ahd [] lx cs'->cs'.length<=1000->(cs'.count 10:Int)<=LN->StrsAre vs (wl.map fun y=>mkS y.1)->
   Fr h₀ L h' (fm u' [(ofString "lead",.ref a8.a),(ofString "sizes",v1),(ofString "runs",v2),(ofString "head",v3),(ofString "other",v4),(ofString "last",v5),(ofString "text",v6)])->News h₀ L h' (lexLed w q (LN-cs'.count 10) tl vs pn ss sn++((209,tabObj tps)::(L+3,o3)::R))->Q .next { s with heap:=h',toks:=tk' }):
  wpAny (model Pm w) (lawA dp un gd outer L fa cd) (exec ls15 (lawEnv L fa cd)) Q E s:=by
 revert X
 dsimp only[Pm]
 k_fill
 intro X
 unfold ls15
 dsimp only[lawEnv,lawA,lawCl] at hE ⊢
 (refine Uc.letAX ?_;intro AA EE)
 (refine Uc.letF F ?_;clear F;intro NM F)
 walk_at "H"
 refine For_invV (hE:=hE) h₀ (by rfl) (by rfl) ?_
 have N0:=News.sub (b:=(a8.a,instObj 189 a8.d)::(a8.d,Uc.wsDq w a8 x)::(a8.P,Uc.wsPq a8 x)::(a8.T,Uc.wsTq a8)::(lexLed w q (LN-cs.count 10) tl [] pn ss sn++((209,tabObj tps)::(L+3,o3)::R))) N (News.sub4 fun r hr=>List.mem_append_right _ (.tail _ (.tail _ (hW r hr))))
 clear N
 repeat' (first|(walk_at "P")|(walk_at "V";first|((with_reducible show wpAny _ _ (eval (Expr.ListComp _ _ _ _) _) _ _ _);(k_dflt (refine Uc.comp_range (by rfl) (by decide) (by rfl) (by decide) (by rfl) ?_ (by intro _;rfl))))|(walk_at "T")))
 rename Fr _ _ _ _=>F9
 rename News _ _ _ _=>N90
 have N9:=News.sub (b:=lexLed w q (LN-cs.count 10) tl [] pn ss sn++((209,tabObj tps)::(L+3,o3)::R)) N90 (fun r hr=>.tail _ (.tail _ (.tail _ (.tail _ hr))))
 clear N90
 refine Uc.ei11 _ _ _ _ _ _ _ _ wl.length _ (fun j zs2 nw=>∃tl pn ss sn cs,nw=lexLed w q (LN-cs.count 10) tl [] pn ss sn++((209,tabObj tps)::(L+3,o3)::R)/\StrsAre ss (chrs cs)/\Ahd (wl.drop j) lx cs/\cs.length<=1000/\(cs.count 10:Int)<=LN/\StrsAre zs2 ((wl.take j).map fun y=>mkS y.1)) ⟨rfl,rfl,F9,N9,by assumption,by rw[hn],by omega,⟨tl,pn,ss,sn,cs,rfl,hss,hA,hlen,hLN.1,.nil⟩,?T,?fin⟩
 case T=>
  clear F9 N9
  intro g2 j vj zs2 nw I2 oI2 C2 oC2 D2 m3 h2 tk2 E2 hj w3q w4q _ hoC2 hmj F N off2 w5q;obtain⟨tj,rfl⟩:=w3q;(refine Uc.ex5 w4q fun tl pn ss sn cs=>Uc.an6 fun e1q hss hA hlen hL9 hS2=>?_;clear w4q;subst e1q);(refine Uc.ah3 w5q fun d1' d2' d3'=>?_;clear w5q)
  refine wpAny_tests_nil ?_
  simp only[if_true]
  obtain⟨⟨x9,n9⟩,hnj⟩:∃n,wl[j]? =some n:=⟨_,List.getElem?_eq_getElem (by omega)⟩
  have hx9:=hwx _ (List.mem_of_getElem? hnj)
  dsimp only at hx9
  have hdr:wl.drop j=(x9,n9)::wl.drop (j+1):=drop_get hnj
  rw[hdr] at hA
  (refine Uc.ex1 (ahd_next hA hx9.2) fun cs'=>Uc.an2 fun hA' e=>?_)
  have hsm:=tok_small cs
  rw[e] at hsm
  dsimp only at hsm
  have offm:=off2.mem
  have N2:=News.sub (b:=lexLed w q (LN-cs.count 10) tl [] pn ss sn++((I2,oI2)::(C2,oC2)::(D2,lst zs2)::((209,tabObj tps)::(L+3,o3)::R))) N perm3
  clear N
  have ok2:=LexOk.more (extra:=[(I2,oI2),(C2,oC2),(D2,lst zs2)]) ok (lex_off3 offm)
  have hK:=kept_raw x9 n9 hx9.2
  have hrl:(rawOf x9 n9).length<=100:=by have:=raw_le x9 n9;have:=hx9.1;omega
  walk_at "X"
  (try dsimp only[List.append_nil,List.nil_append,List.cons_append])
  (refine get_new w p loose mean mg mb ((I2,oI2)::(C2,oC2)::(D2,lst zs2)::((209,tabObj tps)::(L+3,o3)::R)) q LN tl pn ss sn cs hss (by omega) ⟨hL9,hLN.2⟩ ok2 _ _ _ _ _ _ _ _ _ _ _ _ _ _ _ _ _ ‹_› ‹_› ‹_› ‹_› ‹_› (by first|assumption|rfl) ?pre (by walk_at "r") (by walk_at "u") ?_);(case pre=>first|exact trivial|assumption)
  first|refine kE5npv ?_|refine kE5vpn ?_
  intro tl' pn' ss' sn' t' h' tk' hss' F N
  rw[e] at hss' N ⊢
  dsimp only at hss' N
  clear N2
  walk_at "X"
  (refine kept_c w p loose mean mg mb _ (rawOf x9 n9) _ hrl (fun c hc=>⟨(hK.2.1 c hc).lt,(hK.2.1 c hc).b3⟩) _ _ _ _ _ _ _ _ _ _ _ _ _ _ _ _ _ ‹_› ‹_› ‹_› ‹_› ‹_› (by first|assumption|rfl) ?pre (by walk_at "r") (by walk_at "u") ?_);(case pre=>first|exact trivial|assumption)
  refine kEn1v ?_
  intro t2 h' tk' F N
  rw[hK.1]
  walk_at "X"
  exact TurnC.mk _ ‹_› ‹_› perm3' (Off3.of (lex_off_all (P:=fun a=>a≠I2/\a≠C2/\a≠D2) offm)) ⟨trivial,tl',pn',ss',sn',cs',rfl,hss',hA',by omega,by omega,by
   rw[List.take_add_one,hnj]
   show StrsAre _ (List.map _ (_++[(x9,n9)]))
   rw[List.map_append]
   exact StrsAre.append' hS2 (.cons _ _ .nil)⟩
 case fin=>
  clear F9 N9
  intro D2 h2 tk2 zs2 nw w6q F N o2;(refine Uc.ex5 w6q fun tl pn ss sn cs=>Uc.an6 fun e1q hss hA hlen hL9 hS2=>?_;clear w6q;subst e1q)
  rw[List.drop_of_length_le (Nat.le_refl _)] at hA
  rw[List.take_of_length_le (Nat.le_refl _)] at hS2
  have hz2:zs2.length=wl.length:=by rw[StrsAre.length hS2,List.length_map]
  walk_at "X"
  rename Fr _ _ _ _=>F9
  have ok2:=LexOk.more (extra:=[(D2,lst zs2)]) ok (lex_off1 (off1_all o2))
  have N2:=News.sub (b:=lexLed w q (LN-cs.count 10) tl [] pn ss sn++((D2,lst zs2)::((209,tabObj tps)::(L+3,o3)::R))) N perm4
  refine iter_listL (σ:=List Value×Nat) (l:=D2) (vs:=zs2) (nn:=zs2.length) (fun c=>lexLed w q (LN-cs.count 10) tl c.1 c.2 ss sn++((D2,lst zs2)::((209,tabObj tps)::(L+3,o3)::R))) (fun c=>[(ofString "lead",.ref a8.a),(ofString "sizes",v1),(ofString "runs",v2),(ofString "head",v3),(ofString "other",v4),(ofString "last",v5),(ofString "text",v6)])
   (fun i c=>c.1=zs2.take i) ([],pn) rfl (fun c=>List.mem_append_right _ (.head _)) F9 N2 ⟨rfl,rfl,rfl,rfl,rfl,rfl,rfl,trivial⟩ rfl ?turn ?done
  case turn=>
   clear F9 N2
   intro i v
   refine fpLooR fun vs c=>?_
   intro u h tk I o hv hE41z hne hit F N
   obtain rfl:=hE41z
   dsimp only at hne F N ⊢
   have hv4:i<wl.length:=by have:=(List.getElem?_eq_some_iff.mp hv).1;omega
   have ok3:=LexOk.moreR (extra:=[(I,o)]) ok2 (lex_off1 hne)
   rw[List.append_assoc] at N
   walk_at "X"
   (refine push_c w p loose mean mg mb (((D2,lst zs2)::((209,tabObj tps)::(L+3,o3)::R))++[(I,o)]) q (LN-cs.count 10) tl (zs2.take i) c ss sn v (by rw[List.length_take];omega) ok3 _ _ _ _ _ _ _ _ _ _ _ _ _ _ _ _ _ ‹_› ‹_› ‹_› ‹_› ‹_› (by first|assumption|rfl) ?pre (by walk_at "r") (by walk_at "u") ?_);(case pre=>first|exact trivial|assumption)
   first|refine kE1nv ?_|refine kE1vn ?_
   intro pn' h' tk' F N
   walk_at "X"
   walk_at "H";refine Turn.next (zs2.take i++[v],pn') ‹_› N (fun _ hp=>hp) (fun p hp=>.inl (lex_off_all (P:=fun a=>a∈(lexLed w q (LN-cs.count 10) tl (zs2.take i) c ss sn++((D2,lst zs2)::((209,tabObj tps)::(L+3,o3)::R))).map (·.1)) (fun p hp=>List.mem_map_of_mem hp) p hp)) ⟨rfl,rfl,rfl,rfl,rfl,rfl,rfl,trivial⟩ (by dsimp only;rw[List.take_add_one,hv];rfl)
  case done=>
   clear F9 N2
   refine fpLooR fun vs c=>?_
   intro u h tk hvs F N
   dsimp only at hvs F N ⊢
   rw[List.take_of_length_le (Nat.le_refl _)] at hvs
   subst hvs
   walk_at "X"
   exact ret _ _ tl _ ss sn cs _ _ hss hA hlen hL9 hS2 F (News.sub N fun p hp=>(List.mem_append.mp hp).elim (List.mem_append_left _) fun h=>List.mem_append_right _ (.tail _ h))
end
end Uc
end
section
namespace Uc
open PyProof.Rows.LCg
theorem ha_lp {w:World}{q:Lex}{LN:Int}{tl:Tok}{ps ps' ss:List Value}{pn pn' sn:Nat}{c5 c6:Addr}{o5 o6 o5' o6':Obj}{Tl:Led}:∀p∈lexLed w q LN tl ps' pn' ss sn++((c5,o5')::(c6,o6')::Tl),p.1∈(lexLed w q LN tl ps pn ss sn++((c5,o5)::(c6,o6)::Tl)).map (·.1)∨isIt p.2=false:=fun p hp=>by
 rcases List.mem_append.mp hp with hp|hp
 ·exact .inl (lex_offP (P:=fun a=>a∈(lexLed w q LN tl ps pn ss sn++((c5,o5)::(c6,o6)::Tl)).map (·.1)) (fun r hr=>List.mem_map_of_mem (List.mem_append_left _ hr)) p hp)
 rcases List.mem_cons.mp hp with rfl|hp
 ·exact .inl (List.mem_map.mpr ⟨(c5,o5),List.mem_append_right _ (.head _),rfl⟩)
 rcases List.mem_cons.mp hp with rfl|hp
 ·exact .inl (List.mem_map.mpr ⟨(c6,o6),List.mem_append_right _ (.tail _ (.head _)),rfl⟩)
 ·exact .inl (List.mem_map_of_mem (List.mem_append_right _ (.tail _ (.tail _ hp))))
section
variable (w:World)(p:Program)(loose:List Str)(mean:ExcName->Option Value)(mg mb:Str->Option Value)
theorem l1_seg13 {h₀:Heap}{L fa:Addr}{cd:Value}{s:Shared}{Q:Flow->Shared->Prop}{E:Value->Shared->Prop}{u:Str->Option Value}{A₀:Around}{base:Heap}{outer:List Env}{dp un:Nat}{gd:Option (List Code)}(B:Below A₀ base outer h₀)(hpre:CodeHd base 213 209)(hdp:dp+30<recursionLimit)(hun:un+120<cLine)(hE:PassesOwn (model Pm w) (lawA dp un gd outer L fa cd) (lawEnv L fa cd) E)(X:(K w.params).In h₀)(T:Top p loose mean mg mb h₀)
  {S Ru:Addr} {o3 o5 o6:Obj} {v05 v06:Option Value} {q:Lex} {LN:Int} {tl th to:Tok} {pn sn rk m:Nat} {ps ss zs rs:List Value} {sr runs:List Nat} {qs:List (List Nat)} {hx ox:List Nat} {vl vt:Value} {Tl:Led} {a8:WsA} {x:Str}
  (d3:o3.data=.cell (some (.ref q.X))) (d5:o5.data=.cell v05) (d6:o6.data=.cell v06)
  (hz:IntsAre zs (sr.map fun(n:Nat)=>(n:Int))) (hr:IntsAre rs (runs.map fun(n:Nat)=>(n:Int))) (hsl:sr.length<=10) (hpm:runs.Perm sr) (hso:sr.Pairwise (· <=·)) (hs9:∀x∈sr,x<=10)
  (hh1:1<=hx.length) (hh2:hx.length<=2) (ho1:1<=ox.length) (ho2:ox.length<=3)
  (i8:IntsAre a8.vs (wsOf x).cs) (hl8:a8.vs.length<=1000) (hb8:(wsOf x).b<=1000) (hm:wsLong (wsOf x)=(m:Int)) (hm9:m<=10)
  (hps:StrsAre ps (qs.map mkS)) (hrn:∀t,t<=m->rndOk hx.length ox.length sr t (quT sr qs t,[],[])=true) (hend:quT sr qs (m+1)=[]) (hW:∀r∈wsLed w x a8,r∈Tl)
  (okR:LexOk q ((L+5,o5)::(L+6,o6)::(L+3,o3)::(S,lst zs)::(Ru,W.listOf rs.toArray rk)::Tl)) (hl5:∀r∈lexLed w q LN tl [] 0 ss sn,r.1≠L+5/\r.1≠L+6) (ht5:∀r∈(S,lst zs)::(Ru,W.listOf rs.toArray rk)::Tl,r.1≠L+5/\r.1≠L+6)
  (F:Fr h₀ L s.heap (fm u [(ofString "lead",.ref a8.a),(ofString "sizes",.ref S),(ofString "runs",.ref Ru),(ofString "head",.str (mkS hx) th),(ofString "other",.str (mkS ox) to),(ofString "last",vl),(ofString "text",vt)])) (N:News h₀ L s.heap (lexLed w q LN tl ps pn ss sn++((L+5,o5)::(L+6,o6)::(L+3,o3)::(S,lst zs)::(Ru,W.listOf rs.toArray rk)::Tl)))
  (ret:∀h' tk' u' pn' o5' o6',Fr h₀ L h' (fm u' [(ofString "sizes",.ref S),(ofString "runs",.ref Ru),(ofString "head",.str (mkS hx) th),(ofString "other",.str (mkS ox) to),(ofString "last",vl),(ofString "text",vt)])->News h₀ L h' (lexLed w q LN tl [] pn' ss sn++((L+5,o5')::(L+6,o6')::(L+3,o3)::(S,lst zs)::(Ru,W.listOf rs.toArray rk)::Tl))->Q .next { s with heap:=h',toks:=tk' }):
  wpAny (model Pm w) (lawA dp un gd outer L fa cd) (exec ls16 (lawEnv L fa cd)) Q E s:=by
 revert X
 dsimp only[Pm]
 k_fill
 intro X
 rw[ls16_eq]
 unfold lr
 dsimp only[lawEnv,lawA,lawCl] at hE ⊢
 (refine Uc.letAX ?_;intro AA EE)
 (refine Uc.letF F ?_;clear F;intro NM F)
 walk_at "H"
 refine For_invV (hE:=hE) h₀ (by rfl) (by rfl) ?_
 have N0:=News.sub (b:=(a8.a,instObj 189 a8.d)::(a8.d,Uc.wsDq w a8 x)::(a8.P,Uc.wsPq a8 x)::(a8.T,Uc.wsTq a8)::(lexLed w q LN tl ps pn ss sn++((L+5,o5)::(L+6,o6)::(L+3,o3)::(S,lst zs)::(Ru,W.listOf rs.toArray rk)::Tl))) N (News.sub4 fun r hr=>List.mem_append_right _ (.tail _ (.tail _ (.tail _ (.tail _ (.tail _ (hW r hr)))))))
 clear N
 walk_at "X"
 (refine longest_c w p loose mean mg mb _ x a8 i8 hl8 hb8 _ _ _ _ _ _ _ _ _ _ _ _ _ _ _ _ _ ‹_› ‹_› ‹_› ‹_› ‹_› (by first|assumption|rfl) ?pre (by walk_at "r") (by walk_at "u") ?_);(case pre=>first|exact trivial|assumption)
 refine kEn1v ?_
 intro t5 h' tk' F N
 rw[hm]
 walk_at "X"
 rename Fr _ _ _ _=>F9
 rename News _ _ _ _=>N90
 rename IsRange _ _ _ _ _ _ _ _=>hr9
 have N9:=News.sub (b:=lexLed w q LN tl ps pn ss sn++((L+5,o5)::(L+6,o6)::(L+3,o3)::(S,lst zs)::(Ru,W.listOf rs.toArray rk)::Tl)) N90 (fun r hr=>.tail _ (.tail _ (.tail _ (.tail _ hr))))
 clear N90
 have okl:=okR.all
 refine iter_to (σ:=List Value×Nat×Obj×Obj) (m+1) (fun c=>lexLed w q LN tl c.1 c.2.1 ss sn++((L+5,c.2.2.1)::(L+6,c.2.2.2)::(L+3,o3)::(S,lst zs)::(Ru,W.listOf rs.toArray rk)::Tl)) (fun _=>[(ofString "sizes",.ref S),(ofString "runs",.ref Ru),(ofString "head",.str (mkS hx) th),(ofString "other",.str (mkS ox) to),(ofString "last",vl),(ofString "text",vt)])
  (fun t c=>StrsAre c.1 ((quT sr qs t).map mkS)/\(∃v,c.2.2.1.data=.cell v)/\(∃v,c.2.2.2.data=.cell v)) (ps,pn,o5,o6) rfl hr9 (by push_cast;rfl) (by omega) F9 N9 ⟨rfl,rfl,rfl,rfl,rfl,rfl,trivial⟩ ⟨hps,⟨_,d5⟩,⟨_,d6⟩⟩ ?turn ?done
 case turn=>
  clear F9 N9
  intro t ti
  refine fpLooooR fun ps1 pn1 o5b o6b=>?_
  intro u1 h1 tk1 I o ht hR hne hit F N
  (refine Uc.ah3 hR fun hR2 w36q w37q=>?_;clear hR);(refine Uc.ex1 w36q fun v5 hR3=>?_;clear w36q);(refine Uc.ex1 w37q fun v6 hR4=>?_;clear w37q)
  dsimp only at hR2 hR3 hR4 hne F N ⊢
  intro Z9 hZ9
  have hI:=lex_off1 (oD:=o) hne
  have hI5:I≠L+5:=(hne (L+5,o5b) (List.mem_append_right _ (.head _))).symm
  have hI6:I≠L+6:=(hne (L+6,o6b) (List.mem_append_right _ (.tail _ (.head _)))).symm
  obtain⟨u2,F2⟩:∃u2,Fr h₀ L h1 (fm u2 [(ofString "turn",.int (t:Int) ti),(ofString "sizes",.ref S),(ofString "runs",.ref Ru),(ofString "head",.str (mkS hx) th),(ofString "other",.str (mkS ox) to),(ofString "last",vl),(ofString "text",vt)]):=⟨_,toFm F _ ⟨rfl,rfl,rfl,rfl,rfl,rfl,rfl,trivial⟩⟩
  clear F
  rw[List.append_assoc] at N
  replace N:News h₀ L h1 (lexLed w q LN tl ps1 pn1 ss sn++((L+5,o5b)::(L+6,o6b)::(L+3,o3)::(S,lst zs)::(Ru,W.listOf rs.toArray rk)::(Tl++[(I,o)]))):=N
  refine l1_rnd w p loose mean mg mb B hpre hdp hun hE X T (t:=t) (tk2:=ti) (qs:=quT sr qs t) (Tl:=Tl++[(I,o)]) (runs:=runs) (sr:=sr) d3 hR3 hR4 hz hr hsl hpm hso hs9 (by omega) hh1 hh2 ho1 ho2 hR2 (hrn t (by omega))
   (okR.on (cons_off (P:=fun a=>a≠q.D/\a≠q.PB/\a≠q.SG) (okl (L+5,o5) (.head _)) (cons_off (P:=fun a=>a≠q.D/\a≠q.PB/\a≠q.SG) (okl (L+6,o6) (.tail _ (.head _))) (cons_off (P:=fun a=>a≠q.D/\a≠q.PB/\a≠q.SG) (okl _ (.tail _ (.tail _ (.head _)))) (cons_off (P:=fun a=>a≠q.D/\a≠q.PB/\a≠q.SG) (okl _ (.tail _ (.tail _ (.tail _ (.head _))))) (cons_off (P:=fun a=>a≠q.D/\a≠q.PB/\a≠q.SG) (okl _ (.tail _ (.tail _ (.tail _ (.tail _ (.head _)))))) (fun r hr=>(List.mem_append.mp hr).elim (fun h=>okl r (.tail _ (.tail _ (.tail _ (.tail _ (.tail _ h)))))) (fun h=>hI r h))))))))
   hl5 (cons_off (P:=fun a=>a≠L+5/\a≠L+6) (ht5 _ (.head _)) (cons_off (P:=fun a=>a≠L+5/\a≠L+6) (ht5 _ (.tail _ (.head _))) (fun r hr=>(List.mem_append.mp hr).elim (fun h=>ht5 r (.tail _ (.tail _ h))) (fun h=>by rw[List.mem_singleton.mp h];exact⟨hI5,hI6⟩)))) F2 N ?_
  clear F2 N
  intro h' tk' u' ps2 pn2 o5c o6c v5c v6c d5c d6c hps2 F N
  refine hZ9 _ _ ?_
  dsimp only
  refine Turn.next (ps2,pn2,o5c,o6c) F N (fun r hr=>by rw[List.append_assoc] at hr;exact hr) ha_lp ⟨rfl,rfl,rfl,rfl,rfl,rfl,trivial⟩ ⟨hps2,⟨_,d5c⟩,⟨_,d6c⟩⟩
 case done=>
  clear F9 N9
  refine fpLooooR fun ps1 pn1 o5b o6b=>?_
  intro u1 h1 tk1 hR F N
  (refine Uc.ah3 hR fun hR2 _ _=>?_;clear hR)
  dsimp only at hR2 F N ⊢
  rw[hend] at hR2
  cases hR2
  walk_at "X"
  exact ret _ _ _ pn1 o5b o6b F N
end
end Uc
end
section
namespace Uc
open PySem.StrLaws
theorem occ_count (x:Str)(c n:Nat)(hn:x.length<=n):∀(k i:Nat) (st:Array Nat×Nat),i+k=x.length+1->st.1.size=(x.cps.toList.take i).count c->st.2<=i->
  (forIn (List.range' i k) st (occBody x ⟨#[c]⟩ x.length (n+1))).run.fst.size=x.cps.toList.count c
 |0,i,st,hk,hs,_=>by
  show st.1.size=_
  rw[hs,List.take_of_length_le (by show x.cps.size<=i;have e:x.cps.size=x.length:=rfl;(walk_at "O"))]
 |k+1,i,st,hk,hs,hf=>by
  rw[List.range'_succ,List.forIn_cons]
  unfold occBody
  have hle:st.1.size<=n:=by
   rw[hs]
   have h1:=List.count_le_length (a:=c) (l:=x.cps.toList.take i)
   have h2:(x.cps.toList.take i).length<=x.length:=by rw[List.length_take];exact Nat.min_le_right _ _
   (walk_at "O")
  by_cases h:x.cps.toList[i]? =some c
  ·have h1:=(subAt_one x c i).mpr h
   rw[if_pos ⟨⟨⟨by(walk_at "O"),hf⟩,h1.1⟩,h1.2⟩]
   refine occ_count x c n hn k (i+1) (st.1.push i,i+1) (by(walk_at "O")) ?_ (Nat.le_refl _)
   show(st.1.push i).size=_
   rw[Array.size_push,hs,List.take_add_one,h,List.count_append]
   simp
  ·have h1:¬ (((st.1.size<n+1/\st.2<=i)/\i+(⟨#[c]⟩:Str).length<=x.length)/\Builtin.Str.subAt x ⟨#[c]⟩ i=true):=fun q=>h ((subAt_one x c i).mp ⟨q.1.2,q.2⟩)
   rw[if_neg h1]
   refine occ_count x c n hn k (i+1) (st.1,st.2) (by(walk_at "O")) ?_ (Nat.le_succ_of_le hf)
   show st.1.size=_
   rw[hs,List.take_add_one,List.count_append]
   cases e:x.cps.toList[i]? with
   |none=>simp
   |some d=>
    have hd:d≠c:=fun q=>h (by rw[e,q])
    simp[hd]
theorem txt_count (l:List Nat)(c:Nat):Txt.count ⟨l.toArray⟩ ⟨#[c]⟩=((l.count c:Nat):Int):=by
 unfold Txt.count
 rw[occ_eq]
 have:=occ_count ⟨l.toArray⟩ c (⟨l.toArray⟩:Str).length (Nat.le_refl _) ((⟨l.toArray⟩:Str).length+1-0) 0 (#[],0) (by(walk_at "O")) rfl (Nat.le_refl _)
 rw[Array.length_toList,this]
end Uc
end
section
namespace Uc
open PyProof.Rows.LCg
theorem last_tok:lastTab.all (fun z=>decide (tokGo [z,101,110,100]=([z,101,110,100],[]))&&decide (Txt.join (ofString "") (keptL [z,101,110,100])=mkS [z,101,110,100])&&[z,101,110,100].all (fun c=>decide (c<1114112)&&decide ((mapB3 c).length<=100)))=true:=by decide+kernel
theorem last_get {z:Nat}(h:z∈lastTab):tokGo [z,101,110,100]=([z,101,110,100],[])/\Txt.join (ofString "") (keptL [z,101,110,100])=mkS [z,101,110,100]/\∀c∈[z,101,110,100],c<1114112/\(mapB3 c).length<=100:=by
 have:=List.all_eq_true.mp last_tok z h
 rw[Bool.and_eq_true,Bool.and_eq_true,decide_eq_true_iff,decide_eq_true_iff] at this
 refine⟨this.1.1,this.1.2,fun c hc=>?_⟩
 have:=List.all_eq_true.mp this.2 c hc
 rw[Bool.and_eq_true,decide_eq_true_iff,decide_eq_true_iff] at this
 exact this
section
variable (w:World)(p:Program)(loose:List Str)(mean:ExcName->Option Value)(mg mb:Str->Option Value)
theorem l1_seg14 {h₀:Heap}{L fa:Addr}{cd:Value}{s:Shared}{Q:Flow->Shared->Prop}{E:Value->Shared->Prop}{u:Str->Option Value}{A₀:Around}{base:Heap}{outer:List Env}{dp un:Nat}{gd:Option (List Code)}(B:Below A₀ base outer h₀)(hpre:CodeHd base 213 209)(hdp:dp+30<recursionLimit)(hun:un+120<cLine)(hE:PassesOwn (model Pm w) (lawA dp un gd outer L fa cd) (lawEnv L fa cd) E)(X:(K w.params).In h₀)(T:Top p loose mean mg mb h₀)
  {o3:Obj} {q:Lex} {LN:Int} {tl tt t9:Tok} {pn sn:Nat} {ss:List Value} {cs x:List Nat} {z:Nat} {tps:Array Value} {R:Led}
  (d3:o3.data=.cell (some (.ref q.X))) (hz:z∈lastTab) (hss:StrsAre ss (chrs cs)) (hA:Ahd [] [z,101,110,100] cs) (hlen:cs.length<=1000) (hLN:(cs.count 10:Int)<=LN/\LN<=100000) (hx:LN=1+x.count 10) (hxl:x.length<=1000)
  (ok:LexOk q ((209,tabObj tps)::(L+3,o3)::R))
  (F:Fr h₀ L s.heap (fm u [(ofString "last",.str (mkS [z,101,110,100]) t9),(ofString "text",.str (mkS x) tt)])) (N:News h₀ L s.heap (lexLed w q (LN-cs.count 10) tl [] pn ss sn++((209,tabObj tps)::(L+3,o3)::R)))
  (ret:∀h' tk' m' news',Fr h₀ L h' m'->News h₀ L h' ((209,tabObj tps)::news')->Q (.ret (.bool true)) { s with heap:=h',toks:=tk' }):
  wpAny (model Pm w) (lawA dp un gd outer L fa cd) (execs [ls17,ls18] (lawEnv L fa cd)) Q E s:=by
 revert X
 dsimp only[Pm]
 k_fill
 intro X
 unfold ls17 ls18
 dsimp only[lawEnv,lawA,lawCl]
 (refine Uc.letAE ?_;intro AA EE)
 (refine Uc.letF F ?_;clear F;intro NM F)
 obtain⟨g1,g2,g3⟩:=last_get hz
 obtain⟨ws,hw,hcs⟩:=id hA
 have e1:tokGo cs=([z,101,110,100],[]):=by rw[hcs,tok_skip ws hw];exact g1
 walk_at "X"
 (try dsimp only[List.append_nil,List.nil_append,List.cons_append])
 (refine get_new w p loose mean mg mb ((209,tabObj tps)::(L+3,o3)::R) q LN tl pn ss sn cs hss (by omega) hLN ok _ _ _ _ _ _ _ _ _ _ _ _ _ _ _ _ _ ‹_› ‹_› ‹_› ‹_› ‹_› (by first|assumption|rfl) ?pre (by walk_at "r") (by walk_at "u") ?_);(case pre=>first|exact trivial|assumption)
 first|refine kE5npv ?_|refine kE5vpn ?_
 intro tl' pn' ss' sn' t' h' tk' hss' F N
 rw[e1] at hss' N ⊢
 dsimp only at hss' N
 walk_at "X"
 (refine kept_c w p loose mean mg mb _ [z,101,110,100] _ (by show 4<=100;omega) g3 _ _ _ _ _ _ _ _ _ _ _ _ _ _ _ _ _ ‹_› ‹_› ‹_› ‹_› ‹_› (by first|assumption|rfl) ?pre (by walk_at "r") (by walk_at "u") ?_);(case pre=>first|exact trivial|assumption)
 refine kEn1v ?_
 intro t2 h' tk' F N
 rw[g2]
 walk_at "X"
 (try dsimp only[List.append_nil,List.nil_append,List.cons_append])
 (refine get_new w p loose mean mg mb ((209,tabObj tps)::(L+3,o3)::R) q LN tl' pn' ss' sn' [] hss' (by decide) (by show(0:Int)<=LN/\_;omega) ok _ _ _ _ _ _ _ _ _ _ _ _ _ _ _ _ _ ‹_› ‹_› ‹_› ‹_› ‹_› (by first|assumption|rfl) ?pre (by walk_at "r") (by walk_at "u") ?_);(case pre=>first|exact trivial|assumption)
 first|refine kE5npv ?_|refine kE5vpn ?_
 intro tl2 pn2 ss2 sn2 t2 h' tk' hss2 F N
 have e3:(⟨(tokGo []).1.toArray⟩:Str)=ofString "":=by decide
 rw[e3]
 walk_at "X"
 have ec:Txt.count (mkS x) (ofString "\n")=((x.count 10:Nat):Int):=txt_count x 10
 have ev:(LN-((List.count 10 (tokGo []).2:Nat):Int)==1+Txt.count (mkS x) (ofString "\n"))=true:=by
  rw[ec,hx]
  show((1+(x.count 10:Int))-((0:Nat):Int)==1+(x.count 10:Int))=true
  simp
 rw[ev]
 exact ret _ _ _ _ ‹_› (News.sub ‹_› (b:=(209,tabObj tps)::[]) fun p hp=>by
  rw[List.mem_singleton.mp hp]
  exact List.mem_append_right _ (.head _))
end
end Uc
end
section
namespace Uc
open PyProof.Rows.LCg
noncomputable def rulW (runs:List Nat)(trail:Nat):WS:=wsOf (mkS ((rulerOf runs trail).map ledC))
noncomputable def csOf (runs:List Nat)(trail:Nat):List Nat:=(rulW runs trail).cs.map Int.toNat
noncomputable def srOf (runs:List Nat)(trail:Nat):List Nat:=sizesUp (csOf runs trail) (csOf runs trail).length
noncomputable def mOf (runs:List Nat)(trail:Nat):Nat:=(wsLong (rulW runs trail)).toNat
noncomputable def rulOk (runs:List Nat)(trail:Nat):Bool:=
 decide (1<=runs.length)&&decide (runs.length<=3)&&runs.all (fun x=>decide (x<=2))&&decide (trail<=2)&&decide (runs.sum+runs.length<=6)&&decide (1<=runs.sum+runs.length)&&decide ((rulerOf runs trail).length<=8)&&(rulerOf runs trail).all (fun c=>c==102||c==105)&&
 wsEq (rulW runs trail) (wsOf (mkS ((rulerOf runs trail).reverse.map ledC)))==decide (trail=runs.getD 0 0)&&decide ((rulW runs trail).cs=(csOf runs trail).map fun(n:Nat)=>(n:Int))&&decide ((csOf runs trail).length<=10)&&(csOf runs trail).all (fun c=>decide (c<=10))&&decide ((rulW runs trail).b<=10)&&
 decide (wsLong (rulW runs trail)=(mOf runs trail:Int))&&decide (mOf runs trail<=2)&&decide (wsLong (rulW runs trail)∈runs.map (fun(n:Nat)=>(n:Int))++[(trail:Int)])&&(runs.map (fun(n:Nat)=>(n:Int))++[(trail:Int)]).all (fun a=>decide (a<=wsLong (rulW runs trail)))&&
 decide (srOf runs trail∈srs)&&decide (runs.Perm (srOf runs trail))&&decide ((srOf runs trail).Pairwise (· <=·))&&(srOf runs trail).all (fun x=>decide (x<=mOf runs trail))&&decide (((rulW runs trail).n:Int)-((rulW runs trail).b:Int)=((runs.sum+runs.length:Nat):Int))&&decide ((srOf runs trail).sum+(srOf runs trail).length=runs.sum+runs.length)
theorem rul_all:((List.range 81).all fun n=>rulOk (runsOf n) (trailOf n))=true:=by decide+kernel
theorem rul_ok (n:Nat):rulOk (runsOf n) (trailOf n)=true:=by
 have h:=List.all_eq_true.mp rul_all (n%81) (List.mem_range.mpr (Nat.mod_lt _ (by decide)))
 have e0:n%81%3=n%3:=Nat.mod_mod_of_dvd n (by decide:3 ∣ 81)
 have dm:∀a b:Nat,3 ∣ b->a*b=81->n%81 / a%3=n / a%3:=fun a b hb e=>by
  rw[<-e,Nat.mod_mul_right_div_self,Nat.mod_mod_of_dvd _ hb]
 have e1:runsOf (n%81)=runsOf n:=by
  unfold runsOf
  rw[e0,dm 3 27 (by decide) rfl,dm 9 9 (by decide) rfl]
 have e2:trailOf (n%81)=trailOf n:=dm 27 3 (by decide) rfl
 rw[<-e1, <-e2]
 exact h
set_option genInjectivity false in
set_option genSizeOf false in
structure Rul (runs:List Nat) (trail:Nat):Prop where
 l1:1<=runs.length
 l3:runs.length<=3
 r2:∀x∈runs,x<=2
 t2:trail<=2
 s6:runs.sum+runs.length<=6
 s1:1<=runs.sum+runs.length
 x8:(rulerOf runs trail).length<=8
 x2:∀c∈rulerOf runs trail,c=102∨c=105
 eq:wsEq (rulW runs trail) (wsOf (mkS ((rulerOf runs trail).reverse.map ledC)))=decide (trail=runs.getD 0 0)
 cs:(rulW runs trail).cs=(csOf runs trail).map fun(n:Nat)=>(n:Int)
 c10:(csOf runs trail).length<=10
 cle:∀c∈csOf runs trail,c<=10
 b10:(rulW runs trail).b<=10
 m:wsLong (rulW runs trail)=(mOf runs trail:Int)
 m2:mOf runs trail<=2
 g1:wsLong (rulW runs trail)∈runs.map (fun(n:Nat)=>(n:Int))++[(trail:Int)]
 g2:∀a∈runs.map (fun(n:Nat)=>(n:Int))++[(trail:Int)],a<=wsLong (rulW runs trail)
 sr:srOf runs trail∈srs
 pm:runs.Perm (srOf runs trail)
 so:(srOf runs trail).Pairwise (· <=·)
 sm:∀x∈srOf runs trail,x<=mOf runs trail
 nb:((rulW runs trail).n:Int)-((rulW runs trail).b:Int)=((runs.sum+runs.length:Nat):Int)
 ss:(srOf runs trail).sum+(srOf runs trail).length=runs.sum+runs.length
theorem rul_get {runs:List Nat}{trail:Nat}(h:rulOk runs trail=true):Rul runs trail:=by
 unfold rulOk at h
 simp only[Bool.and_eq_true,Bool.or_eq_true,decide_eq_true_eq,List.all_eq_true,beq_iff_eq] at h
 (refine Uc.ah2 h fun w1q a23=>?_;clear h);(refine Uc.ah2 w1q fun w2q a22=>?_;clear w1q);(refine Uc.ah2 w2q fun w3q a21=>?_;clear w2q);(refine Uc.ah2 w3q fun w4q a20=>?_;clear w3q);(refine Uc.ah2 w4q fun w5q a19=>?_;clear w4q);(refine Uc.ah2 w5q fun w6q a18=>?_;clear w5q);(refine Uc.ah2 w6q fun w7q a17=>?_;clear w6q);(refine Uc.ah2 w7q fun w8q a16=>?_;clear w7q);(refine Uc.ah2 w8q fun w9q a15=>?_;clear w8q);(refine Uc.ah2 w9q fun w10q a14=>?_;clear w9q);(refine Uc.ah2 w10q fun w11q a13=>?_;clear w10q);(refine Uc.ah2 w11q fun w12q a12=>?_;clear w11q);(refine Uc.ah2 w12q fun w13q a11=>?_;clear w12q);(refine Uc.ah2 w13q fun w14q a10=>?_;clear w13q);(refine Uc.ah2 w14q fun w15q a9=>?_;clear w14q);(refine Uc.ah2 w15q fun w16q a8=>?_;clear w15q);(refine Uc.ah2 w16q fun w17q a7=>?_;clear w16q);(refine Uc.ah2 w17q fun w18q a6=>?_;clear w17q);(refine Uc.ah2 w18q fun w19q a5=>?_;clear w18q);(refine Uc.ah2 w19q fun w20q a4=>?_;clear w19q);(refine Uc.ah2 w20q fun w21q a3=>?_;clear w20q);(refine Uc.ah2 w21q fun a1 a2=>?_;clear w21q)
 exact⟨a1,a2,a3,a4,a5,a6,a7,a8,a9,a10,a11,a12,a13,a14,a15,a16,a17,a18,a19,a20,a21,a22,a23⟩
theorem head_in (n:Nat):headOf n∈hxs:=by
 have:headOf n=headOf (n%2):=by unfold headOf;rw[Nat.mod_mod]
 rw[this]
 have h:n%2<2:=Nat.mod_lt _ (by decide)
 generalize n%2=k at h
 exact lt2 (P:=fun k=>headOf k∈hxs) h (.head _) (.tail _ (.head _))
theorem other_in (n:Nat):otherOf n∈oxs:=by
 have:otherOf n=otherOf (2*(n / 2%3)):=by unfold otherOf;rw[Nat.mul_div_cancel_left _ (by decide),Nat.mod_mod]
 rw[this]
 have h:n / 2%3<3:=Nat.mod_lt _ (by decide)
 generalize n / 2%3=k at h
 exact lt3 (P:=fun k=>otherOf (2*k)∈oxs) h (.head _) (.tail _ (.head _)) (.tail _ (.tail _ (.head _)))
theorem hx_ok {x:List Nat}(h:x∈hxs):1<=x.length/\x.length<=2/\∀c∈x,c=102∨c=105∨c=70∨c=73:=by
 revert x
 decide
theorem ox_ok {x:List Nat}(h:x∈oxs):1<=x.length/\x.length<=3/\∀c∈x,c=102∨c=105∨c=70∨c=73:=by
 revert x
 decide
theorem last_in (n:Nat):∃z∈lastTab,lastOf n=[z,101,110,100]:=by
 refine⟨lastTab.getD (n / 6%16) 0,?_,rfl⟩
 have h:n / 6%16<16:=Nat.mod_lt _ (by decide)
 generalize n / 6%16=k at h
 revert k
 decide
theorem law_rnd {sr hx ox:List Nat}(h:lawOk sr hx ox=true){t:Nat}(ht:t<3):rndOk hx.length ox.length sr t (quT sr (wordsOf hx ox sr) t,[],[])=true:=by
 unfold lawOk at h
 rw[Bool.and_eq_true] at h
 exact List.all_eq_true.mp h.1 t (List.mem_range.mpr ht)
theorem law_end {sr hx ox:List Nat}(h:lawOk sr hx ox=true){m:Nat}(hm:m<3)(hs:∀x∈sr,x<=m):quT sr (wordsOf hx ox sr) (m+1)=[]:=by
 unfold lawOk at h
 rw[Bool.and_eq_true] at h
 have:=List.all_eq_true.mp h.2 m (List.mem_range.mpr hm)
 rw[Bool.or_eq_true] at this
 rcases this with e|e
 ·(refine Uc.ex1 (List.any_eq_true.mp e) fun x=>Uc.an2 fun hx hlt=>?_)
  have:=hs x hx
  have:=of_decide_eq_true hlt
  omega
 ·exact List.isEmpty_iff.mp e
end Uc
end
section
namespace Uc
open PyProof.Rows.LCg
section
variable (w:World)(p:Program)(loose:List Str)(mean:ExcName->Option Value)(mg mb:Str->Option Value)
theorem l1_seg1 {h₀:Heap}{L fa:Addr}{cd:Value}{s:Shared}{Q:Flow->Shared->Prop}{E:Value->Shared->Prop}{m:Str->Option Value}{A₀:Around}{base:Heap}{outer:List Env}{dp un:Nat}{gd:Option (List Code)}(B:Below A₀ base outer h₀)(hpre:CodeHd base 213 209)(hdp:dp+30<recursionLimit)(hun:un+120<cLine)(X:(K w.params).In h₀)(T:Top p loose mean mg mb h₀)
  {sc:Addr} {vs:List Value} {ns:List Int} (hsc:h₀.IsList sc vs.toArray) (hI:IntsAre vs ns) (hlen:vs.length<=63) {o1 o2 o3 o4 o5 o6:Obj} (d1:o1.data=.cell (some (.ref sc))) (d2:o2.data=.cell none)
  (F:Fr h₀ L s.heap m) (N:News h₀ L s.heap [(L+6,o6),(L+5,o5),(L+4,o4),(L+3,o3),(L+2,o2),(L+1,o1),(209,tabObj #[])]) (hTB:@LT.lt Nat _ 209 L)
  (ret:∀h' tk' u D ys (nums:List Nat),nums.length=8->(∀n∈nums,n<1000000)->IntsAre ys (nums.map fun(n:Nat)=>(n:Int))->Fr h₀ L h' (fm u [(ofString "numbers",.ref D)])->News h₀ L h' [(D,lst ys),(L+6,o6),(L+5,o5),(L+4,o4),(L+3,o3),(209,tabObj #[])]->((@Ne Nat (L+6) D)/\(@Ne Nat (L+5) D)/\(@Ne Nat (L+4) D)/\(@Ne Nat (L+3) D)/\(@Ne Nat 209 D))->Q .next { s with heap:=h',toks:=tk' }):
  wpAny (model Pm w) (lawA dp un gd outer L fa cd) (execs [ls0,ls1] (lawEnv L fa cd)) Q E s:=by
 revert X
 dsimp only[Pm]
 k_fill
 intro X
 unfold ls0 ls1
 dsimp only[lawEnv,lawA,lawCl]
 (refine Uc.letAE ?_;intro AA EE)
 repeat' (first|(walk_at "P")|(walk_at "V";first|((with_reducible show wpAny _ _ (exec (PySem.Stmt.Assign _ (Expr.ListComp _ _ _ _) _) _) _ _ _);(k_dflt (refine Uc.comp_rangeA (by with_unfolding_all rfl) (by rfl) (by decide) (by rfl) (by decide) (by rfl) (by rfl) (by rfl) ?_ (by intro _;rfl))))|(walk_at "T")))
 rename Fr _ _ _ _=>F1
 rename News _ _ _ _=>N0
 (refine Uc.ex1 (nameLed N0) fun led=>Uc.an2 fun hled N1=>?_)
 clear N0
 refine Uc.ei10 _ _ _ _ _ _ _ 8 led (fun i ys nw=>nw=led/\∃nums:List Nat,nums.length=i/\(∀n∈nums,n<1000000)/\IntsAre ys (nums.map fun(n:Nat)=>(n:Int))) ⟨rfl,rfl,F1,N1,by assumption,rfl,by decide,⟨rfl,[],rfl,fun _ h=>(nomatch h),.nil⟩,?T,?fin⟩
 case T=>
  intro g i v ys nw I oI C oC D m₂ h tk E' hi w3q w4q _ hoC hm2 F N off w5q;obtain⟨tv,rfl⟩:=w3q;(refine Uc.ah2 w4q fun e1q q0q=>Uc.ex1 q0q fun nums=>Uc.an3 fun hn1 hn2 hn3=>?_;clear w4q q0q;subst e1q);(refine Uc.ah3 w5q fun d1' d2' d3'=>?_;clear w5q)
  subst hled
  refine wpAny_tests_nil ?_
  simp only[if_true]
  repeat' (first|(walk_at "P")|(walk_at "V";first|((k_here;(with_reducible show wpAny _ _ (subscriptTail _ (Expr.Slice (some _) none (some _) _) (Value.ref _) (Value.ref _)) _ _ _);k_dflt (refine' Uc.slice3_ints ?F ?N ?l ?kl ?ku ?k ?h0 ?i ?_ ?s ?t ?z;(case F=>k_asm);(case N=>k_asm);(case l=>kmk_list);(case kl=>exact IsPart.int _ _);(case ku=>exact IsPart.none);(case k=>exact IsPart.int _ _);(case h0=>decide);(case i=>assumption);(case s=>with_unfolding_all rfl);(case t=>kmk_pure);(case z=>size_fits));intro D' ws' ms' h' F' N' l1 hI';(try k_lt l1);(try k_sweep)))|(walk_at "T")))
  rename IntsAre _ _=>hms
  obtain⟨k,hk,ek⟩:=mod_million (([3359,2,13,50,121,700,64,999]:List Int).getD ((i:Int)).toNat 0+List.sum _)
  exact TurnC.mk _ ‹_› ‹_› (fun _ h=>.tail _ h) off ⟨trivial,rfl,nums++[k],by rw[List.length_append,hn1];rfl,fun n hn=>(List.mem_append.mp hn).elim (hn2 n) (fun e=>by rw[List.mem_singleton.mp e];exact hk),intsAre_snoc hn3 ek⟩
 case fin=>
  clear N1 F1
  intro D h tk ys nw w6q F N o1;(refine Uc.ah2 w6q fun e1q q0q=>Uc.ex1 q0q fun nums=>Uc.an3 fun hn1 hn2 hn3=>?_;clear w6q q0q;subst e1q)
  subst hled
  (refine Uc.ah9 o1 fun f1 f2 f3 f4 f5 f6 f7 f8 _=>?_;clear o1)
  walk_at "X"
  rename Fr _ _ _ _=>Fz
  exact ret _ _ _ _ _ nums hn1 hn2 hn3 (toFm Fz _ ⟨rfl,trivial⟩) (News.sub ‹_› (by walk_at "I")) ⟨f2,f3,f4,f5,f8⟩
end
end Uc
end
section
namespace Uc
open PyProof.Rows.LCg
theorem seg2_min {a b c:Nat}(h:a+b<=3):(if 3-((a:Int)+((b:Int)+0))<(c:Int) then 3-((a:Int)+((b:Int)+0)) else(c:Int))=((min c (3-(a+b)):Nat):Int):=by
 split<;>omega
section
variable (w:World)(p:Program)(loose:List Str)(mean:ExcName->Option Value)(mg mb:Str->Option Value)
theorem l1_seg2 {h₀:Heap}{L fa:Addr}{cd:Value}{s:Shared}{Q:Flow->Shared->Prop}{E:Value->Shared->Prop}{u:Str->Option Value}{A₀:Around}{base:Heap}{outer:List Env}{dp un:Nat}{gd:Option (List Code)}(B:Below A₀ base outer h₀)(hpre:CodeHd base 213 209)(hdp:dp+30<recursionLimit)(hun:un+120<cLine)(X:(K w.params).In h₀)(T:Top p loose mean mg mb h₀)
  {D:Addr} {led:Led} {ys:List Value} {nums:List Nat} (hl:nums.length=8) (hb:∀n∈nums,n<1000000) (hI:IntsAre ys (nums.map fun(n:Nat)=>(n:Int)))
  (F:Fr h₀ L s.heap (fm u [(ofString "numbers",.ref D)])) (N:News h₀ L s.heap ((D,lst ys)::led))
  (ret:∀h' tk' u' R rs k tt,IntsAre rs ((runsOf (nums.getD 0 0)).map fun(n:Nat)=>(n:Int))->Fr h₀ L h' (fm u' [(ofString "runs",.ref R),(ofString "trail",.int (trailOf (nums.getD 0 0):Int) tt),(ofString "numbers",.ref D)])->News h₀ L h' ((R,listOf rs.toArray k)::(D,lst ys)::led)->(∀q∈(D,lst ys)::led,q.1≠R)->Q .next { s with heap:=h',toks:=tk' }):
  wpAny (model Pm w) (lawA dp un gd outer L fa cd) (execs [ls2,ls3] (lawEnv L fa cd)) Q E s:=by
 revert X
 dsimp only[Pm]
 k_fill
 intro X
 unfold ls2 ls3
 dsimp only[lawEnv,lawA,lawCl]
 refine J.start (gl_ok ‹_› ‹_›) F N rfl rfl ?_
 clear F N
 intro C
 have hyl:ys.length=8:=by rw[intsAre_len hI,List.length_map,hl]
 obtain⟨n0,hn0⟩:∃n0,n0=nums.getD 0 0:=⟨_,rfl⟩
 rw[<-hn0] at ret
 have hI0:(nums.map fun(n:Nat)=>(n:Int)).getD 0 0=(n0:Int):=by rw[hn0];cases nums with
  |nil=>rfl
  |cons a l=>rfl
 refine J.step ?_
 intro h tk F N
 dsimp only[Cx.sg] at F N ⊢
 walk_at "X"
 rename Fr _ _ _ _=>F9
 rename News _ _ _ (_::(_,W.listOf _ _)::_)=>N9
 rename (D<_/\AllLt _ led)=>hA
 rw[show Int.toNat 0=0 from rfl,hI0] at F9 N9
 have e1:(n0:Int).fmod 3=((n0%3:Nat):Int):=fmod_nat n0 3
 have e2:((n0:Int).fdiv 3).fmod 3=((n0 / 3%3:Nat):Int):=(congrArg (Int.fmod · 3) (fdiv_nat n0 3)).trans (fmod_nat _ 3)
 have e3:((n0:Int).fdiv 27).fmod 3=((n0 / 27%3:Nat):Int):=(congrArg (Int.fmod · 3) (fdiv_nat n0 27)).trans (fmod_nat _ 3)
 rw[e3] at F9
 rw[e1,e2,e3] at N9
 have N8:=News.drop1 N9
 clear N9
 (refine Uc.ex1 (nameLt (news:=(D,lst ys)::led) (fun q hq=>allLt_all (show AllLt _ ((D,lst ys)::led) from hA) q hq)) fun R=>Uc.an2 fun e1q hneR=>?_;subst e1q)
 obtain⟨rs0,hrs0,hI2⟩:∃rs0,rs0=[Value.int ((n0%3:Nat):Int) (tk+1+1),Value.int ((n0 / 3%3:Nat):Int) (tk+1+1+1+1+1+1+1)]/\IntsAre rs0 [((n0%3:Nat):Int),((n0 / 3%3:Nat):Int)]:=⟨_,rfl,.cons _ _ (.cons _ _ .nil)⟩
 have N7:=News.sub (b:=(R,W.listOf rs0.toArray 0)::(D,lst ys)::led) N8 (by rw[hrs0];exact fun _ h=>h)
 have hr0l:rs0.length=2:=by rw[hrs0];rfl
 refine J.next ?_ F9 N7
 refine J.gen [(ofString "runs",.ref R),(ofString "trail",.int ((n0 / 27%3:Nat):Int) _),(ofString "numbers",.ref D)] ⟨rfl,rfl,rfl,trivial⟩ fun u=>?_
 clear F9 N8 N7 hA
 refine J.stepJ (σ:=List Value×Nat×Tok) (fun c=>(R,W.listOf c.1.toArray c.2.1)::(D,lst ys)::led) (fun c=>[(ofString "runs",.ref R),(ofString "trail",.int ((n0 / 27%3:Nat):Int) c.2.2),(ofString "numbers",.ref D)])
  (fun c=>IntsAre c.1 ((runsOf n0).map fun(n:Nat)=>(n:Int))) ?g1 ?g2
 case g2=>
  refine fpLoooR fun rs k tt=>?_
  intro u hP
  dsimp only at hP ⊢
  refine J.done ?_
  intro h tk F N
  exact ret _ _ _ _ _ _ _ hP F N hneR
 case g1=>
  intro h tk F N
  dsimp only[Cx.sg] at F N ⊢
  repeat' (first|(walk_at "P")|(walk_at "V";first|((with_reducible show wpAny _ _ (callWith _ (Value.builtin _) _ _ _) _ _ _);dsimp only;first|((with_reducible show wpAny _ _ (callWith _ (Value.builtin "list.append") _ _ _) _ _ _);refine callWith_method1 ?_)|((with_reducible show wpAny _ _ (callWith _ (Value.builtin "str.join") _ _ _) _ _ _);refine callWith_method1 ?_))|(walk_at "T")))
  ·rename (_<(4:Int))=>h4
   rename Fr _ _ _ _=>F8
   rename News _ _ _ _=>N8
   rw[show Int.toNat 0=0 from rfl,hI0,show((n0:Int).fdiv 9).fmod 3=((n0 / 9%3:Nat):Int) from(congrArg (Int.fmod · 3) (fdiv_nat n0 9)).trans (fmod_nat _ 3),List.push_toArray] at N8
   have h4':n0%3+n0 / 3%3<4:=by rw[Int.add_zero] at h4;exact Int.ofNat_lt.mp h4
   have ev:=seg2_min (a:=n0%3) (b:=n0 / 3%3) (c:=n0 / 9%3) (Nat.le_of_lt_succ h4')
   refine⟨(_,_,_),_,_,_,rfl,F8,News.sub N8 (fun _ h=>h),⟨rfl,rfl,rfl,trivial⟩,?_⟩
   dsimp only
   rw[show runsOf n0=[n0%3,n0 / 3%3]++[min (n0 / 9%3) (3-(n0%3+n0 / 3%3))] by unfold runsOf;rw[if_pos h4'];rfl,List.map_append]
   refine IntsAre.append hI2 ?_
   rw[List.map_cons, <-ev]
   exact .cons _ _ .nil
  ·rename (¬ _<(4:Int))=>h4
   rename Fr _ _ _ _=>F8
   rename News _ _ _ _=>N8
   refine⟨(_,_,_),_,_,_,rfl,F8,News.sub N8 (fun _ h=>h),⟨rfl,rfl,rfl,trivial⟩,?_⟩
   dsimp only
   rw[show runsOf n0=[n0%3,n0 / 3%3] by unfold runsOf;rw[if_neg (fun h=>h4 (by rw[Int.add_zero];exact Int.ofNat_lt.mpr h))]]
   exact hI2
end
end Uc
end
section
namespace Uc
open PyProof.Rows.LCg
section
variable (w:World)(p:Program)(loose:List Str)(mean:ExcName->Option Value)(mg mb:Str->Option Value)
theorem l1_seg3 {h₀:Heap}{L fa:Addr}{cd:Value}{s:Shared}{Q:Flow->Shared->Prop}{E:Value->Shared->Prop}{u:Str->Option Value}{A₀:Around}{base:Heap}{outer:List Env}{dp un:Nat}{gd:Option (List Code)}(B:Below A₀ base outer h₀)(hpre:CodeHd base 213 209)(hdp:dp+30<recursionLimit)(hun:un+120<cLine)(X:(K w.params).In h₀)(T:Top p loose mean mg mb h₀)
  {D R:Addr} {led:Led} {ys:List Value} {nums:List Nat} {tv:Int} {tt:Tok} (hl:nums.length=8) (hb:∀n∈nums,n<1000000) (hI:IntsAre ys (nums.map fun(n:Nat)=>(n:Int)))
  (F:Fr h₀ L s.heap (fm u [(ofString "runs",.ref R),(ofString "trail",.int tv tt),(ofString "numbers",.ref D)])) (N:News h₀ L s.heap ((D,lst ys)::led))
  (ret:∀h' tk' u' t1 t2 t3,Fr h₀ L h' (fm u' [(ofString "head",.str ⟨(headOf (nums.getD 1 0)).toArray⟩ t1),(ofString "other",.str ⟨(otherOf (nums.getD 1 0)).toArray⟩ t2),(ofString "last",.str ⟨(lastOf (nums.getD 1 0)).toArray⟩ t3),(ofString "runs",.ref R),(ofString "trail",.int tv tt),(ofString "numbers",.ref D)])->News h₀ L h' ((D,lst ys)::led)->Q .next { s with heap:=h',toks:=tk' }):
  wpAny (model Pm w) (lawA dp un gd outer L fa cd) (execs [ls4,ls5,ls6] (lawEnv L fa cd)) Q E s:=by
 revert X
 dsimp only[Pm]
 k_fill
 intro X
 unfold ls4 ls5 ls6
 dsimp only[lawEnv,lawA,lawCl]
 have hyl:ys.length=8:=by rw[intsAre_len hI,List.length_map,hl]
 obtain⟨n1,hn1⟩:∃n1,n1=nums.getD 1 0:=⟨_,rfl⟩
 rw[<-hn1] at ret
 have hI1:(nums.map fun(n:Nat)=>(n:Int)).getD 1 0=(n1:Int):=by
  rw[hn1]
  rw[List.getD_eq_getElem?_getD,List.getElem?_map,List.getD_eq_getElem?_getD]
  cases nums[1]? <;>rfl
 have eV:([172,174,846,848,6149,6151,6154,6158,8202,8206,8287,8289,65023,65040,65278,65280]:List Int).getD ((((nums.map fun(n:Nat)=>(n:Int)).getD (Int.toNat 1) 0).fdiv 6).fmod 16).toNat 0=((lastTab.getD (n1 / 6%16) 0:Nat):Int):=by
  rw[show Int.toNat 1=1 from rfl,hI1,show((n1:Int).fdiv 6).fmod 16=((n1 / 6%16:Nat):Int) from(congrArg (Int.fmod · 16) (fdiv_nat n1 6)).trans (fmod_nat _ 16),Int.toNat_natCast]
  exact(by decide:∀z<16,([172,174,846,848,6149,6151,6154,6158,8202,8206,8287,8289,65023,65040,65278,65280]:List Int).getD z 0=((lastTab.getD z 0:Nat):Int)) _ (Nat.mod_lt _ (by decide))
 have hV:((lastTab.getD (n1 / 6%16) 0:Nat):Int)<=1114111:=(by decide:∀z<16,((lastTab.getD z 0:Nat):Int)<=1114111) _ (Nat.mod_lt _ (by decide))
 refine J.start (gl_ok ‹_› ‹_›) F N rfl rfl ?_
 clear F N
 intro C
 refine J.step ?_
 intro h tk F N
 dsimp only[Cx.sg] at F N ⊢
 walk_at "X"
 rename Fr _ _ _ _=>F9
 rename News _ _ _ _=>N9
 rw[show Int.toNat 1=1 from rfl,hI1,show(n1:Int).fmod 2=((n1%2:Nat):Int) from fmod_nat n1 2,show ofString "F"=(⟨#[70]⟩:Str) from by rfl,mul_rep,show ofString "I"=(⟨[73].toArray⟩:Str) from by rfl,app2] at F9
 refine J.next ?_ F9 (News.sub N9 fun _ h=>h)
 refine J.gen [(ofString "head",.str ⟨(headOf n1).toArray⟩ _),(ofString "runs",.ref R),(ofString "trail",.int tv tt),(ofString "numbers",.ref D)] ⟨rfl,rfl,rfl,rfl,trivial⟩ fun u=>?_
 clear F9 N9
 refine J.step ?_
 intro h tk F N
 dsimp only[Cx.sg] at F N ⊢
 walk_at "X"
 rename Fr _ _ _ _=>F9
 rename News _ _ _ _=>N9
 rw[show Int.toNat 1=1 from rfl,hI1,show((n1:Int).fdiv 2).fmod 3=((n1 / 2%3:Nat):Int) from(congrArg (Int.fmod · 3) (fdiv_nat n1 2)).trans (fmod_nat _ 3),show ofString "f"=(⟨#[102]⟩:Str) from by rfl,mul_rep,show ofString "i"=(⟨[105].toArray⟩:Str) from by rfl,app2] at F9
 refine J.next ?_ F9 (News.sub N9 fun _ h=>h)
 refine J.gen [(ofString "head",.str ⟨(headOf n1).toArray⟩ _),(ofString "other",.str ⟨(otherOf n1).toArray⟩ _),(ofString "runs",.ref R),(ofString "trail",.int tv tt),(ofString "numbers",.ref D)] ⟨rfl,rfl,rfl,rfl,rfl,trivial⟩ fun u=>?_
 clear F9 N9
 refine J.step ?_
 intro h tk F N
 dsimp only[Cx.sg] at F N ⊢
 repeat' (first|(walk_at "P")|(walk_at "V";first|((with_reducible show wpAny _ _ (call (Value.builtin "chr") _) _ _ _);rw[eV];refine chr_of_range (Int.natCast_nonneg _) hV ?_)|(walk_at "T")))
 rename Fr _ _ _ _=>F9
 rename News _ _ _ _=>N9
 rw[Int.toNat_natCast,show ∀d:Nat,(⟨#[d]⟩:Str)=⟨[d].toArray⟩ from fun _=>rfl,show ofString "end"=(⟨[101,110,100].toArray⟩:Str) from by rfl,app2] at F9
 refine J.next ?_ F9 (News.sub (b:=(D,lst ys)::led) N9 (by walk_at "I"))
 refine J.gen [(ofString "head",.str ⟨(headOf n1).toArray⟩ _),(ofString "other",.str ⟨(otherOf n1).toArray⟩ _),(ofString "last",.str ⟨(lastOf n1).toArray⟩ _),(ofString "runs",.ref R),(ofString "trail",.int tv tt),(ofString "numbers",.ref D)] ⟨rfl,rfl,rfl,rfl,rfl,rfl,trivial⟩ fun u=>?_
 refine J.done ?_
 intro h tk F N
 exact ret _ _ _ _ _ _ F N
end
end Uc
end
section
namespace Uc
open PyProof.Rows.LCg
theorem join_mk (ls:List (List Nat)):Txt.join (ofString "") (ls.map fun l=>(⟨l.toArray⟩:Str))=⟨ls.flatten.toArray⟩:=by
 rw[show Txt.join (ofString "") (ls.map fun l=>(⟨l.toArray⟩:Str))=Str.join (ofString "") (ls.map fun l=>(⟨l.toArray⟩:Str)) from eq_of_beq (join_plain_closes _ _)]
 induction ls with
 |nil=>rfl
 |cons c l ih=>
  cases l with
  |nil=>
   show(⟨c.toArray⟩:Str)=⟨(c++[]).toArray⟩
   rw[List.append_nil]
  |cons d l=>
   show(⟨c.toArray⟩:Str)++ofString ""++Str.join (ofString "") ((d::l).map fun l=>(⟨l.toArray⟩:Str))=_
   rw[ih,show ofString ""=(⟨([]:List Nat).toArray⟩:Str) from by rfl]
   rw[app2,app2,List.append_nil, <-List.flatten_cons]
section
variable (w:World)(p:Program)(loose:List Str)(mean:ExcName->Option Value)(mg mb:Str->Option Value)
theorem l1_seg4 {h₀:Heap}{L fa:Addr}{cd:Value}{s:Shared}{Q:Flow->Shared->Prop}{E:Value->Shared->Prop}{u:Str->Option Value}{A₀:Around}{base:Heap}{outer:List Env}{dp un:Nat}{gd:Option (List Code)}(B:Below A₀ base outer h₀)(hpre:CodeHd base 213 209)(hdp:dp+30<recursionLimit)(hun:un+120<cLine)(X:(K w.params).In h₀)(T:Top p loose mean mg mb h₀)
  {D R:Addr} {led:Led} {rs:List Value} {k trail:Nat} {runs:List Nat} {hv ov lv:Value} {tt:Tok} (hr:IntsAre rs (runs.map fun(n:Nat)=>(n:Int))) (hrl:runs.length<=3) (hr2:∀x∈runs,x<=2) (htr:trail<=2)
  (F:Fr h₀ L s.heap (fm u [(ofString "head",hv),(ofString "other",ov),(ofString "last",lv),(ofString "runs",.ref R),(ofString "trail",.int (trail:Int) tt),(ofString "numbers",.ref D)])) (N:News h₀ L s.heap ((R,W.listOf rs.toArray k)::led))
  (ret:∀h' tk' u' t1,Fr h₀ L h' (fm u' [(ofString "ruler",.str ⟨(rulerOf runs trail).toArray⟩ t1),(ofString "head",hv),(ofString "other",ov),(ofString "last",lv),(ofString "runs",.ref R),(ofString "trail",.int (trail:Int) tt),(ofString "numbers",.ref D)])->News h₀ L h' ((R,W.listOf rs.toArray k)::led)->Q .next { s with heap:=h',toks:=tk' }):
  wpAny (model Pm w) (lawA dp un gd outer L fa cd) (execs [ls7] (lawEnv L fa cd)) Q E s:=by
 revert X
 dsimp only[Pm]
 k_fill
 intro X
 unfold ls7
 dsimp only[lawEnv,lawA,lawCl]
 have hrsl:rs.length=runs.length:=by rw[intsAre_len hr,List.length_map]
 refine J.start (gl_ok ‹_› ‹_›) F N rfl rfl ?_
 clear F N
 intro C
 refine J.step ?_
 intro h tk F N
 dsimp only[Cx.sg] at F N ⊢
 repeat' (first|(walk_at "P")|(walk_at "V";first|((with_reducible show wpAny _ _ (eval (Expr.ListComp _ _ _ _) _) _ _ _);(k_dflt (refine Uc.comp_list (by rfl) (by decide) (by rfl) (by decide) (by rfl) ?_ (by intro _;rfl))))|((with_reducible show wpAny _ _ (callWith _ (Value.builtin _) _ _ _) _ _ _);dsimp only;first|((with_reducible show wpAny _ _ (callWith _ (Value.builtin "list.append") _ _ _) _ _ _);refine callWith_method1 ?_)|((with_reducible show wpAny _ _ (callWith _ (Value.builtin "str.join") _ _ _) _ _ _);refine callWith_method1 ?_))|(walk_at "T")))
 rename Fr _ _ _ _=>F9
 rename News _ _ _ _=>N9
 refine Uc.ei8 _ _ _ R rs k ((R,W.listOf rs.toArray k)::led) (fun j ys nw=>nw=(R,W.listOf rs.toArray k)::led/\StrsAre ys ((runs.take j).map fun s=>(⟨(barOf s).toArray⟩:Str))) ⟨rfl,rfl,F9,N9,.head _,by omega,⟨rfl,.nil⟩,?T,?fin⟩
 case T=>
  intro g i v ys nw I oI C' oC D2 m₂ h tk E' hi hv2 hR hS hoC hm2 F N off hne3
  obtain⟨rfl,hR⟩:=hR
  (refine Uc.ah3 hne3 fun d1 d2 d3=>?_;clear hne3)
  obtain⟨x,t,rfl,hx⟩:∃(x:Nat) (t:Tok),v=.int (x:Int) t/\runs[i]? =some x:=by
   rcases intsAre_get hr i with ⟨a,_⟩|⟨n,t,a,b⟩
   ·rw[a] at hv2;cases hv2
   ·rw[a] at hv2
    rw[List.getElem?_map] at b
    cases e:runs[i]? with
    |none=>rw[e] at b;cases b
    |some y=>rw[e] at b;cases b;cases hv2;exact⟨y,t,rfl,rfl⟩
  have hx2:x<=2:=hr2 x (List.mem_of_getElem? hx)
  refine wpAny_tests_nil ?_
  simp only[if_true]
  walk_at "X"
  rw[show ofString "f"=(⟨#[102]⟩:Str) from by rfl,mul_rep,show ofString "i"=(⟨[105].toArray⟩:Str) from by rfl,app2]
  refine TurnC.mk ((R,W.listOf rs.toArray k)::led) ‹_› ‹_› (fun _ h=>h) off ⟨.head _,rfl,?_⟩
  rw[List.take_add_one,hx,List.map_append]
  exact StrsAre.append' hR (.cons _ _ .nil)
 case fin=>
  intro D2 h tk ys nw hR F N o1
  obtain⟨rfl,hR⟩:=hR
  rw[hrsl,List.take_of_length_le (Nat.le_refl _)] at hR
  walk_at "X"
  have hj:(⟨(runs.map barOf).flatten.toArray⟩:Str).length<=9:=by
   rw[len_mk]
   have:=bars_len runs hr2
   omega
  refine join_listW (ys:=runs.map fun s=>(⟨(barOf s).toArray⟩:Str)) (News.isList N (.head _)) hR (by decide) (by rw[List.length_map];have:=bars_w runs hr2;omega) ?_
  intro t' k'
  rw[show(runs.map fun s=>(⟨(barOf s).toArray⟩:Str))=(runs.map barOf).map fun l=>(⟨l.toArray⟩:Str) from by rw[List.map_map];rfl,join_mk]
  walk_at "X"
  rename Fr _ _ _ _=>F9
  rename News _ _ _ _=>N9
  rw[show ofString "f"=(⟨#[102]⟩:Str) from by rfl,mul_rep,app2] at F9
  refine J.next ?_ F9 (News.sub (b:=(R,W.listOf rs.toArray k)::led) N9 (by walk_at "I"))
  refine J.gen [(ofString "ruler",.str ⟨(rulerOf runs trail).toArray⟩ _),(ofString "head",hv),(ofString "other",ov),(ofString "last",lv),(ofString "runs",.ref R),(ofString "trail",.int (trail:Int) tt),(ofString "numbers",.ref D)] ⟨rfl,rfl,rfl,rfl,rfl,rfl,rfl,trivial⟩ fun u=>?_
  refine J.done ?_
  intro h tk F N
  exact ret _ _ _ _ F N
end
end Uc
end
section
namespace Uc
theorem spelled_len (x:List Nat)(n:Nat)(h:x.length<=8):(spelled x n).length<=21:=Nat.le_trans (spelled_le x n) (by omega)
end Uc
end
section
namespace Uc
open PyProof.Rows.LCg
theorem getD_nums {nums:List Nat}{i:Nat}(h:i<nums.length):(nums.map fun(n:Nat)=>(n:Int)).getD i 0=((nums.getD i 0:Nat):Int):=by
 rw[List.getD_eq_getElem?_getD,List.getD_eq_getElem?_getD,List.getElem?_map,List.getElem?_eq_getElem h]
 rfl
theorem nums_lt {nums:List Nat}(hb:∀n∈nums,n<1000000)(i:Nat):nums.getD i 0<1000000:=by
 rw[List.getD_eq_getElem?_getD]
 cases e:nums[i]? with
 |none=>exact by decide
 |some n=>exact hb n (List.mem_of_getElem? e)
section
variable (w:World)(p:Program)(loose:List Str)(mean:ExcName->Option Value)(mg mb:Str->Option Value)
theorem l1_seg5 {h₀:Heap}{L fa:Addr}{cd:Value}{s:Shared}{Q:Flow->Shared->Prop}{E:Value->Shared->Prop}{u:Str->Option Value}{A₀:Around}{base:Heap}{outer:List Env}{dp un:Nat}{gd:Option (List Code)}(B:Below A₀ base outer h₀)(hpre:CodeHd base 213 209)(hdp:dp+30<recursionLimit)(hun:un+120<cLine)(X:(K w.params).In h₀)(T:Top p loose mean mg mb h₀)
  {D R:Addr} {led:Led} {rs ys:List Value} {k:Nat} {nums rx hx:List Nat} {ov lv tv:Value} {t1 t2:Tok} (hl:nums.length=8) (hb:∀n∈nums,n<1000000) (hI:IntsAre ys (nums.map fun(n:Nat)=>(n:Int)))
  (hr1:rx.length<=8) (hr2:∀c∈rx,c=102∨c=105∨c=70∨c=73) (hh1:hx.length<=8) (hh2:∀c∈hx,c=102∨c=105∨c=70∨c=73)
  (F:Fr h₀ L s.heap (fm u [(ofString "ruler",.str ⟨rx.toArray⟩ t1),(ofString "head",.str ⟨hx.toArray⟩ t2),(ofString "other",ov),(ofString "last",lv),(ofString "runs",.ref R),(ofString "trail",tv),(ofString "numbers",.ref D)])) (N:News h₀ L s.heap ((R,W.listOf rs.toArray k)::(D,lst ys)::led))
  (ret:∀h' tk' u' t,Fr h₀ L h' (fm u' [(ofString "text",.str ⟨(spelled rx (nums.getD 0 0 / 81)++spelled hx (nums.getD 2 0)).toArray⟩ t),(ofString "ruler",.str ⟨rx.toArray⟩ t1),(ofString "head",.str ⟨hx.toArray⟩ t2),(ofString "other",ov),(ofString "last",lv),(ofString "runs",.ref R),(ofString "trail",tv),(ofString "numbers",.ref D)])->News h₀ L h' ((R,W.listOf rs.toArray k)::(D,lst ys)::led)->Q .next { s with heap:=h',toks:=tk' }):
  wpAny (model Pm w) (lawA dp un gd outer L fa cd) (execs [ls8] (lawEnv L fa cd)) Q E s:=by
 revert X
 dsimp only[Pm]
 k_fill
 intro X
 unfold ls8
 dsimp only[lawEnv,lawA,lawCl]
 (refine Uc.letAE ?_;intro AA EE)
 (refine Uc.letF F ?_;clear F;intro NM F)
 have hyl:ys.length=8:=by rw[intsAre_len hI,List.length_map,hl]
 walk_at "X"
 rw[show Int.toNat 0=0 from rfl,getD_nums (show 0<nums.length by omega),show((nums.getD 0 0:Nat):Int).fdiv 81=((nums.getD 0 0 / 81:Nat):Int) from fdiv_nat _ 81]
 (refine spell_c w p loose mean mg mb _ rx _ _ (nums.getD 0 0 / 81) hr1 hr2 (by have:=nums_lt hb 0;omega) _ _ _ _ _ _ _ _ _ _ _ _ _ _ _ _ _ ‹_› ‹_› ‹_› ‹_› ‹_› (by first|assumption|rfl) ?pre (by walk_at "r") (by walk_at "u") ?_);(case pre=>first|exact trivial|assumption)
 refine kEn1v ?_
 intro t3 h1 tk1 F1 N1
 walk_at "X"
 rw[show Int.toNat 2=2 from rfl,getD_nums (show 2<nums.length by omega)]
 (refine spell_c w p loose mean mg mb _ hx _ _ (nums.getD 2 0) hh1 hh2 (by have:=nums_lt hb 2;omega) _ _ _ _ _ _ _ _ _ _ _ _ _ _ _ _ _ ‹_› ‹_› ‹_› ‹_› ‹_› (by first|assumption|rfl) ?pre (by walk_at "r") (by walk_at "u") ?_);(case pre=>first|exact trivial|assumption)
 refine kEn1v ?_
 intro t4 h2 tk2 F2 N2
 have e1:=len_mk (spelled rx (nums.getD 0 0 / 81))
 have e2:=len_mk (spelled hx (nums.getD 2 0))
 have e3:=spelled_len rx (nums.getD 0 0 / 81) hr1
 have e4:=spelled_len hx (nums.getD 2 0) hh1
 walk_at "X"
 rename Fr _ _ _ _=>F9
 rename News _ _ _ _=>N9
 rw[app2] at F9
 exact ret _ _ _ _ (toFm F9 _ ⟨rfl,rfl,rfl,rfl,rfl,rfl,rfl,rfl,trivial⟩) N9
end
end Uc
end
section
namespace Uc
open PyProof.Rows.LCg
noncomputable def restOf (ox:List Nat)(nums:List Nat)(m:Nat):List Nat:=((List.range m).map fun i=>spelled ox (nums.getD (3+i) 0)).flatten
theorem restOf_succ (ox nums:List Nat)(m:Nat):restOf ox nums (m+1)=restOf ox nums m++spelled ox (nums.getD (3+m) 0):=by
 unfold restOf
 rw[List.range_succ,List.map_append,List.flatten_append]
 simp
theorem restOf_len (ox nums:List Nat)(h:ox.length<=8)(m:Nat):(restOf ox nums m).length<=21*m:=by
 induction m with
 |zero=>exact Nat.le_refl _
 |succ m ih=>
  rw[restOf_succ,List.length_append]
  have:=spelled_len ox (nums.getD (3+m) 0) h
  omega
theorem sum_cast (l:List Nat):(l.map fun(n:Nat)=>(n:Int)).sum+((l.map fun(n:Nat)=>(n:Int)).length:Int)=((l.sum+l.length:Nat):Int):=by
 rw[List.length_map]
 have:(l.map fun(n:Nat)=>(n:Int)).sum=((l.sum:Nat):Int):=by
  induction l with
  |nil=>rfl
  |cons a l ih=>rw[List.map_cons,List.sum_cons,List.sum_cons,ih];push_cast;rfl
 rw[this]
 push_cast
 rfl
section
variable (w:World)(p:Program)(loose:List Str)(mean:ExcName->Option Value)(mg mb:Str->Option Value)
theorem l1_seg6 {h₀:Heap}{L fa:Addr}{cd:Value}{s:Shared}{Q:Flow->Shared->Prop}{E:Value->Shared->Prop}{u:Str->Option Value}{A₀:Around}{base:Heap}{outer:List Env}{dp un:Nat}{gd:Option (List Code)}(B:Below A₀ base outer h₀)(hpre:CodeHd base 213 209)(hdp:dp+30<recursionLimit)(hun:un+120<cLine)(X:(K w.params).In h₀)(T:Top p loose mean mg mb h₀)
  (hE:PassesOwn (model Pm w) (lawA dp un gd outer L fa cd) (lawEnv L fa cd) E)
  {D R:Addr} {led:Led} {rs ys:List Value} {k:Nat} {nums ox tx runs:List Nat} {rv hv lv tv:Value} {t0 t1:Tok} (hl:nums.length=8) (hb:∀n∈nums,n<1000000) (hI:IntsAre ys (nums.map fun(n:Nat)=>(n:Int)))
  (ho1:ox.length<=8) (ho2:∀c∈ox,c=102∨c=105∨c=70∨c=73) (htx:tx.length<=100) (hr:IntsAre rs (runs.map fun(n:Nat)=>(n:Int))) (hrl:1<=runs.length) (hrs:runs.sum+runs.length<=6)
  (F:Fr h₀ L s.heap (fm u [(ofString "text",.str ⟨tx.toArray⟩ t0),(ofString "ruler",rv),(ofString "head",hv),(ofString "other",.str ⟨ox.toArray⟩ t1),(ofString "last",lv),(ofString "runs",.ref R),(ofString "trail",tv),(ofString "numbers",.ref D)])) (N:News h₀ L s.heap ((R,W.listOf rs.toArray k)::(D,lst ys)::led))
  (ret:∀h' tk' u' t,Fr h₀ L h' (fm u' [(ofString "text",.str ⟨(tx++restOf ox nums (runs.sum+runs.length-1)).toArray⟩ t),(ofString "ruler",rv),(ofString "head",hv),(ofString "other",.str ⟨ox.toArray⟩ t1),(ofString "last",lv),(ofString "runs",.ref R),(ofString "trail",tv),(ofString "numbers",.ref D)])->News h₀ L h' ((R,W.listOf rs.toArray k)::(D,lst ys)::led)->Q .next { s with heap:=h',toks:=tk' }):
  wpAny (model Pm w) (lawA dp un gd outer L fa cd) (execs [ls9] (lawEnv L fa cd)) Q E s:=by
 revert X hE
 dsimp only[Pm]
 k_fill
 intro X hE
 unfold ls9
 dsimp only[lawEnv,lawA,lawCl] at hE ⊢
 (refine Uc.letAE ?_;intro AA EE)
 (refine Uc.letF F ?_;clear F;intro NM F)
 have hyl:ys.length=8:=by rw[intsAre_len hI,List.length_map,hl]
 have hrsl:rs.length=runs.length:=by rw[intsAre_len hr,List.length_map]
 refine wpAny_execs_cons ?_
 refine For_invV (hE:=hE) h₀ (by rfl) (by rfl) ?_
 walk_at "X"
 rename IsRange _ _ _ _ _ _ _ _=>hrg
 rename Fr _ _ _ _=>F7
 rename News _ _ _ _=>N7
 rw[sum_cast] at hrg
 obtain⟨S,hS⟩:∃S,S=runs.sum+runs.length:=⟨_,rfl⟩
 have hS1:1<=S:=by omega
 rw[<-hS] at hrg hrs ret
 refine iter_range (a:=1) (b:=(S:Int)) (c:=1) (n:=S-1) (σ:=List Nat×Tok) (fun _=>(R,W.listOf rs.toArray k)::(D,lst ys)::led) (fun c=>[(ofString "text",.str ⟨c.1.toArray⟩ c.2),(ofString "ruler",rv),(ofString "head",hv),(ofString "other",.str ⟨ox.toArray⟩ t1),(ofString "last",lv),(ofString "runs",.ref R),(ofString "trail",tv),(ofString "numbers",.ref D)])
  (fun i c=>c.1=tx++restOf ox nums i) (tx,t0) rfl hrg (rsmall (by omega) (by omega) (by omega) (by omega) (by omega) (by omega)) (by
    unfold Builtin.Range.rangeSize
    rw[if_pos (by decide)]
    split<;>omega) F7 N7 ⟨rfl,rfl,rfl,rfl,rfl,rfl,rfl,rfl,trivial⟩ (by dsimp only;simp[restOf]) ?turn ?done
 case done=>
  clear F7 N7
  refine fpLooR fun c tc=>?_
  intro u h tk hR F N
  dsimp only at hR F N ⊢
  subst hR
  walk_at "X"
  exact ret _ _ _ _ F N
 case turn=>
  clear F7 N7
  intro i ti
  refine fpLooR fun c tc=>?_
  intro u h tk I o hi hR hne hit F N
  dsimp only at hR hne F N ⊢
  walk_at "X"
  rw[show(2+(1+(i:Int)*1)).toNat=3+i by omega,getD_nums (show 3+i<nums.length by omega)]
  (refine spell_c w p loose mean mg mb _ ox _ _ (nums.getD (3+i) 0) ho1 ho2 (by have:=nums_lt hb (3+i);omega) _ _ _ _ _ _ _ _ _ _ _ _ _ _ _ _ _ ‹_› ‹_› ‹_› ‹_› ‹_› (by first|assumption|rfl) ?pre (by walk_at "r") (by walk_at "u") ?_);(case pre=>first|exact trivial|assumption)
  refine kEn1v ?_
  intro t4 h2 tk2 F2 N2
  have e1:=len_mk (spelled ox (nums.getD (3+i) 0))
  have e3:=spelled_len ox (nums.getD (3+i) 0) ho1
  have e4:c.length<=300:=by
   rw[hR,List.length_append]
   have:=restOf_len ox nums ho1 i
   omega
  have e2:=len_mk c
  walk_at "X"
  rename Fr _ _ _ _=>F9
  rename News _ _ _ _=>N9
  rw[app2] at F9
  walk_at "H";exact Turn.next (c++spelled ox (nums.getD (3+i) 0),_) F9 N9 (fun _ h=>h) (fun p hp=>.inl (List.mem_map_of_mem hp)) ⟨rfl,rfl,rfl,rfl,rfl,rfl,rfl,rfl,trivial⟩ (by dsimp only;rw[hR,restOf_succ,List.append_assoc])
end
end Uc
end
section
namespace Uc
open PyProof.Rows.LCg
section
variable (w:World)(p:Program)(loose:List Str)(mean:ExcName->Option Value)(mg mb:Str->Option Value)
theorem l1_seg7 {h₀:Heap}{L fa:Addr}{cd:Value}{s:Shared}{Q:Flow->Shared->Prop}{E:Value->Shared->Prop}{u:Str->Option Value}{A₀:Around}{base:Heap}{outer:List Env}{dp un:Nat}{gd:Option (List Code)}(B:Below A₀ base outer h₀)(hpre:CodeHd base 213 209)(hdp:dp+30<recursionLimit)(hun:un+120<cLine)(X:(K w.params).In h₀)(T:Top p loose mean mg mb h₀)
  {D R:Addr} {o3 o4 o5 o6:Obj} {rs ys:List Value} {k:Nat} {x lx:List Nat} {rv hv ov tv:Value} {tt tl:Tok} (hx:x.length<=300) (hlx:lx.length<=10) (d3:o3.data=.cell none) (hTB:@LT.lt Nat _ 209 L)
  (hneR:∀q∈[(D,lst ys),(L+6,o6),(L+5,o5),(L+4,o4),(L+3,o3),(209,tabObj #[])],q.1≠R) (hneD:∀q∈[(L+6,o6),(L+5,o5),(L+4,o4),(L+3,o3),(209,tabObj #[])],q.1≠D)
  (F:Fr h₀ L s.heap (fm u [(ofString "text",.str ⟨x.toArray⟩ tt),(ofString "ruler",rv),(ofString "head",hv),(ofString "other",ov),(ofString "last",.str ⟨lx.toArray⟩ tl),(ofString "runs",.ref R),(ofString "trail",tv),(ofString "numbers",.ref D)])) (N:News h₀ L s.heap [(R,W.listOf rs.toArray k),(D,lst ys),(L+6,o6),(L+5,o5),(L+4,o4),(L+3,o3),(209,tabObj #[])])
  (ret:∀h' tk' q tl' pn ss sn tps o3',o3'.data=.cell (some (.ref q.X))->StrsAre ss (chrs (x++lx))->LexOk q [(209,tabObj tps),(R,W.listOf rs.toArray k),(D,lst ys),(L+6,o6),(L+5,o5),(L+4,o4),(L+3,o3')]->
   Fr h₀ L h' (fm u [(ofString "text",.str ⟨x.toArray⟩ tt),(ofString "ruler",rv),(ofString "head",hv),(ofString "other",ov),(ofString "last",.str ⟨lx.toArray⟩ tl),(ofString "runs",.ref R),(ofString "trail",tv),(ofString "numbers",.ref D)])->News h₀ L h' (lexLed w q 1 tl' [] pn ss sn++[(209,tabObj tps),(R,W.listOf rs.toArray k),(D,lst ys),(L+6,o6),(L+5,o5),(L+4,o4),(L+3,o3')])->Q .next { s with heap:=h',toks:=tk' }):
  wpAny (model Pm w) (lawA dp un gd outer L fa cd) (exec ls10 (lawEnv L fa cd)) Q E s:=by
 revert X
 dsimp only[Pm]
 k_fill
 intro X
 unfold ls10
 dsimp only[lawEnv,lawA,lawCl]
 (refine Uc.letAX ?_;intro AA EE)
 (refine Uc.letF F ?_;clear F;intro NM F)
 have e1:=len_mk x
 have e2:=len_mk lx
 walk_at "X"
 rw[app2]
 rename News _ _ _ _=>N9
 have N8:=News.sub (b:=(209,tabObj #[])::[(R,W.listOf rs.toArray k),(D,lst ys),(L+6,o6),(L+5,o5),(L+4,o4),(L+3,o3)]) N9 (by walk_at "I")
 clear N9
 have t6:@LT.lt Nat _ 209 (L+6):=by omega
 have t5:@LT.lt Nat _ 209 (L+5):=by omega
 have t4:@LT.lt Nat _ 209 (L+4):=by omega
 have t3:@LT.lt Nat _ 209 (L+3):=by omega
 have hq:∀q∈[(R,W.listOf rs.toArray k),(D,lst ys),(L+6,o6),(L+5,o5),(L+4,o4),(L+3,o3)],q.1≠209:=fun q hq=>by
  simp only[List.mem_cons,List.not_mem_nil,or_false] at hq
  rcases hq with rfl|rfl|rfl|rfl|rfl|rfl
  ·exact(hneR (209,tabObj #[]) (.tail _ (.tail _ (.tail _ (.tail _ (.tail _ (.head _))))))).symm
  ·exact(hneD (209,tabObj #[]) (.tail _ (.tail _ (.tail _ (.tail _ (.head _)))))).symm
  ·exact Nat.ne_of_gt t6
  ·exact Nat.ne_of_gt t5
  ·exact Nat.ne_of_gt t4
  ·exact Nat.ne_of_gt t3
 (refine lexer_make w p loose mean mg mb _ ⟨(x++lx).toArray⟩ _ (by rw[len_mk,List.length_append];omega) hq _ _ _ _ _ _ _ _ _ _ _ _ _ _ _ _ _ ‹_› ‹_› ‹_› ‹_› ‹_› (by first|assumption|rfl) ?pre (by walk_at "r") (by walk_at "u") ?_);(case pre=>first|exact trivial|assumption)
 intro v news' h' tk' w18q F N;(refine Uc.ex6 w18q fun q tl' pn ss sn tps=>Uc.an5 fun e1q e2q hss ok lt=>?_;clear w18q;subst e1q;subst e2q)
 walk_at "X"
 have n6:@Ne Nat (L+6) (L+3):=by omega
 have n5:@Ne Nat (L+5) (L+3):=by omega
 have n4:@Ne Nat (L+4) (L+3):=by omega
 have nT:@Ne Nat 209 (L+3):=by omega
 have nR:@Ne Nat R (L+3):=(hneR (L+3,o3) (.tail _ (.tail _ (.tail _ (.tail _ (.head _)))))).symm
 have nD:@Ne Nat D (L+3):=(hneD (L+3,o3) (.tail _ (.tail _ (.tail _ (.head _))))).symm
 have U:UpdF (L+3) o3 [(209,tabObj tps),(R,W.listOf rs.toArray k),(D,lst ys),(L+6,o6),(L+5,o5),(L+4,o4),(L+3,o3)] (fun o'=>[(209,tabObj tps),(R,W.listOf rs.toArray k),(D,lst ys),(L+6,o6),(L+5,o5),(L+4,o4),(L+3,o')]):=
  .tail nT (.tail nR (.tail nD (.tail n6 (.tail n5 (.tail n4 (.head fun _ hp=>nomatch hp))))))
 refine storeX_C F N (c:=L+3) rfl (updF_front U (lex_ne ok lt (.tail _ (.tail _ (.tail _ (.tail _ (.tail _ (.tail _ (.head _))))))))) d3 (fun h' o' F N d'=>?_)
 refine ret _ _ q tl' pn ss sn tps o' d' hss (ok.sub fun p hp=>?_) F N
 simp only[List.mem_cons,List.not_mem_nil,or_false] at hp
 rcases hp with rfl|rfl|rfl|rfl|rfl|rfl|rfl
 ·exact⟨_,(.head _),rfl⟩
 ·exact⟨_,(.tail _ (.head _)),rfl⟩
 ·exact⟨_,(.tail _ (.tail _ (.head _))),rfl⟩
 ·exact⟨_,(.tail _ (.tail _ (.tail _ (.head _)))),rfl⟩
 ·exact⟨_,(.tail _ (.tail _ (.tail _ (.tail _ (.head _))))),rfl⟩
 ·exact⟨_,(.tail _ (.tail _ (.tail _ (.tail _ (.tail _ (.head _)))))),rfl⟩
 ·exact⟨_,(.tail _ (.tail _ (.tail _ (.tail _ (.tail _ (.tail _ (.head _))))))),rfl⟩
end
end Uc
end
section
namespace Uc
open PyProof.Rows.LCg
section
variable (w:World)(p:Program)(loose:List Str)(mean:ExcName->Option Value)(mg mb:Str->Option Value)
theorem l1_seg8 {h₀:Heap}{L fa:Addr}{cd:Value}{s:Shared}{Q:Flow->Shared->Prop}{E:Value->Shared->Prop}{m:Str->Option Value}{A₀:Around}{base:Heap}{outer:List Env}{dp un:Nat}{gd:Option (List Code)}(B:Below A₀ base outer h₀)(hpre:CodeHd base 213 209)(hdp:dp+30<recursionLimit)(hun:un+120<cLine)(X:(K w.params).In h₀)(T:Top p loose mean mg mb h₀)
  {D R:Addr} {o3 o4 o5 o6:Obj} {rs ys:List Value} {k:Nat} {tps:Array Value} {q:Lex} {tl:Tok} {pn sn:Nat} {ss:List Value} {cs cs' rx:List Nat} {nn:Nat} {LN:Int} (d3:o3.data=.cell (some (.ref q.X)))
  (hss:StrsAre ss (chrs cs)) (htok:tokGo cs=(rawOf rx nn,cs')) (hlen:cs.length<=1000) (hLN:(cs.count 10:Int)<=LN/\LN<=100000) (hx:rx.length<=50) (hx2:∀c∈rx,c=102∨c=105)
  (ok:LexOk q [(209,tabObj tps),(R,W.listOf rs.toArray k),(D,lst ys),(L+6,o6),(L+5,o5),(L+4,o4),(L+3,o3)])
  (F:Fr h₀ L s.heap m) (N:News h₀ L s.heap (lexLed w q (LN-cs.count 10) tl [] pn ss sn++[(209,tabObj tps),(R,W.listOf rs.toArray k),(D,lst ys),(L+6,o6),(L+5,o5),(L+4,o4),(L+3,o3)]))
  (ret:∀h' tk' tl' pn' ss' sn' (a8:WsA),StrsAre ss' (chrs cs')->Fr h₀ L h' (fun y=>if y=ofString "lead" then some (.ref a8.a) else m y)->News h₀ L h' ((a8.a,instObj 189 a8.d)::(a8.d,Uc.wsDq w a8 (mkS (rx.map ledC)))::(a8.P,Uc.wsPq a8 (mkS (rx.map ledC)))::(a8.T,Uc.wsTq a8)::(lexLed w q (LN-cs'.count 10) tl' [] pn' ss' sn'++[(209,tabObj tps),(R,W.listOf rs.toArray k),(D,lst ys),(L+6,o6),(L+5,o5),(L+4,o4),(L+3,o3)]))->IntsAre a8.vs (wsOf (mkS (rx.map ledC))).cs->Q .next { s with heap:=h',toks:=tk' }):
  wpAny (model Pm w) (lawA dp un gd outer L fa cd) (execs [ls11] (lawEnv L fa cd)) Q E s:=by
 revert X
 dsimp only[Pm]
 k_fill
 intro X
 unfold ls11
 dsimp only[lawEnv,lawA,lawCl]
 (refine Uc.letAE ?_;intro AA EE)
 have hx4:∀c∈rx,c=102∨c=105∨c=70∨c=73:=fun c hc=>(hx2 c hc).elim .inl fun e=>.inr (.inl e)
 have hK:=kept_raw rx nn hx4
 have elow:rx.map lowC=rx:=by
  refine(List.map_congr_left (g:=id) fun c hc=>?_).trans (List.map_id _)
  rcases hx2 c hc with rfl|rfl<;>rfl
 have hrl:(rawOf rx nn).length<=100:=by have:=raw_le rx nn;omega
 walk_at "X"
 (try dsimp only[List.append_nil,List.nil_append,List.cons_append])
 (refine get_new w p loose mean mg mb [(209,tabObj tps),(R,W.listOf rs.toArray k),(D,lst ys),(L+6,o6),(L+5,o5),(L+4,o4),(L+3,o3)] q LN tl pn ss sn cs hss (by omega) hLN ok _ _ _ _ _ _ _ _ _ _ _ _ _ _ _ _ _ ‹_› ‹_› ‹_› ‹_› ‹_› (by first|assumption|rfl) ?pre (by walk_at "r") (by walk_at "u") ?_);(case pre=>first|exact trivial|assumption)
 first|refine kE5npv ?_|refine kE5vpn ?_
 intro tl' pn' ss' sn' t' h' tk' hss' F N
 rw[htok] at hss' N ⊢
 dsimp only at hss' N
 walk_at "X"
 (refine kept_c w p loose mean mg mb _ (rawOf rx nn) _ hrl (fun c hc=>⟨(hK.2.1 c hc).lt,(hK.2.1 c hc).b3⟩) _ _ _ _ _ _ _ _ _ _ _ _ _ _ _ _ _ ‹_› ‹_› ‹_› ‹_› ‹_› (by first|assumption|rfl) ?pre (by walk_at "r") (by walk_at "u") ?_);(case pre=>first|exact trivial|assumption)
 refine kEn1v ?_
 intro t2 h' tk' F N
 rw[hK.1]
 walk_at "X"
 (refine small_c w p loose mean mg mb _ rx _ (by omega) hx4 _ _ _ _ _ _ _ _ _ _ _ _ _ _ _ _ _ ‹_› ‹_› ‹_› ‹_› ‹_› (by first|assumption|rfl) ?pre (by walk_at "r") (by walk_at "u") ?_);(case pre=>first|exact trivial|assumption)
 refine kEn1v ?_
 intro t3 h' tk' F N
 rw[elow]
 walk_at "X"
 (refine lead1_c w p loose mean mg mb _ rx _ (by omega) hx2 _ _ _ _ _ _ _ _ _ _ _ _ _ _ _ _ _ ‹_› ‹_› ‹_› ‹_› ‹_› (by first|assumption|rfl) ?pre (by walk_at "r") (by walk_at "u") ?_);(case pre=>first|exact trivial|assumption)
 intro v n' h' tk' hv F N
 (refine Uc.ex1 hv fun a8=>Uc.an3 fun e1q e2q hI8=>?_;clear hv;subst e1q;subst e2q)
 walk_at "X"
 exact ret _ _ _ _ _ _ a8 hss' ‹_› ‹_› hI8
end
end Uc
end
section
namespace Uc
open PyProof.Rows.LCg
theorem rev_slice (x:List Nat)(u:Tok):Txt.sliceBy ⟨x.toArray⟩ none none (-1,u)=⟨x.reverse.toArray⟩:=by
 rw[<-fold_front_eq_rev ⟨x.toArray⟩ ⟨#[]⟩ rfl u]
 have h:∀(l acc:List Nat),List.foldl (fun(T:Str) (a:Str)=>a++T) ⟨acc.toArray⟩ (l.map fun c=>(⟨#[c]⟩:Str))=⟨(l.reverse++acc).toArray⟩:=fun l=>by
  induction l with
  |nil=>intro acc;rfl
  |cons c l ih=>
   intro acc
   rw[List.map_cons,List.foldl_cons]
   have e:(⟨#[c]⟩:Str)++(⟨acc.toArray⟩:Str)=⟨(c::acc).toArray⟩:=by
    show(⟨#[c]++acc.toArray⟩:Str)=_
    simp
   rw[e,ih]
   simp
 have:=h x []
 rw[List.append_nil] at this
 exact this
section
variable (w:World)(p:Program)(loose:List Str)(mean:ExcName->Option Value)(mg mb:Str->Option Value)
theorem l1_seg9 {h₀:Heap}{L fa:Addr}{cd:Value}{s:Shared}{Q:Flow->Shared->Prop}{E:Value->Shared->Prop}{u:Str->Option Value}{A₀:Around}{base:Heap}{outer:List Env}{dp un:Nat}{gd:Option (List Code)}(B:Below A₀ base outer h₀)(hpre:CodeHd base 213 209)(hdp:dp+30<recursionLimit)(hun:un+120<cLine)(X:(K w.params).In h₀)(T:Top p loose mean mg mb h₀)
  {R:Addr} {led:Led} {rs:List Value} {k trail:Nat} {runs rx:List Nat} {a8:WsA} {v1 v2 v3 v4 v5:Value} {t1 tt:Tok} (hx:rx.length<=50) (hx2:∀c∈rx,c=102∨c=105) (hr:IntsAre rs (runs.map fun(n:Nat)=>(n:Int))) (hI8:IntsAre a8.vs (wsOf (mkS (rx.map ledC))).cs)
  (hrl:runs.length<=3) (hr1:1<=runs.length) (hEq:wsEq (wsOf (mkS (rx.map ledC))) (wsOf (mkS (rx.reverse.map ledC)))=decide (trail=runs.getD 0 0)) (hl8:a8.vs.length<=1000) (hb8:(wsOf (mkS (rx.map ledC))).b<=1000)
  (hL1:wsLong (wsOf (mkS (rx.map ledC)))∈runs.map (fun(n:Nat)=>(n:Int))++[(trail:Int)]) (hL2:∀a∈runs.map (fun(n:Nat)=>(n:Int))++[(trail:Int)],a<=wsLong (wsOf (mkS (rx.map ledC))))
  (F:Fr h₀ L s.heap (fm u [(ofString "lead",.ref a8.a),(ofString "ruler",.str ⟨rx.toArray⟩ t1),(ofString "runs",.ref R),(ofString "trail",.int (trail:Int) tt),(ofString "text",v1),(ofString "head",v2),(ofString "other",v3),(ofString "last",v4),(ofString "numbers",v5)])) (N:News h₀ L s.heap ((a8.a,instObj 189 a8.d)::(a8.d,Uc.wsDq w a8 (mkS (rx.map ledC)))::(a8.P,Uc.wsPq a8 (mkS (rx.map ledC)))::(a8.T,Uc.wsTq a8)::(R,W.listOf rs.toArray k)::led))
  (ret:∀h' tk',Fr h₀ L h' (fm u [(ofString "lead",.ref a8.a),(ofString "ruler",.str ⟨rx.toArray⟩ t1),(ofString "runs",.ref R),(ofString "trail",.int (trail:Int) tt),(ofString "text",v1),(ofString "head",v2),(ofString "other",v3),(ofString "last",v4),(ofString "numbers",v5)])->News h₀ L h' ((a8.a,instObj 189 a8.d)::(a8.d,Uc.wsDq w a8 (mkS (rx.map ledC)))::(a8.P,Uc.wsPq a8 (mkS (rx.map ledC)))::(a8.T,Uc.wsTq a8)::(R,W.listOf rs.toArray k)::led)->Q .next { s with heap:=h',toks:=tk' }):
  wpAny (model Pm w) (lawA dp un gd outer L fa cd) (execs [ls12] (lawEnv L fa cd)) Q E s:=by
 revert X
 dsimp only[Pm]
 k_fill
 intro X
 unfold ls12
 dsimp only[lawEnv,lawA,lawCl]
 (refine Uc.letAE ?_;intro AA EE)
 (refine Uc.letF F ?_;clear F;intro NM F)
 have e1:=len_mk rx
 walk_at "X"
 rw[rev_slice]
 (refine lead1_c w p loose mean mg mb _ rx.reverse _ (by rw[List.length_reverse];omega) (fun c hc=>hx2 c (List.mem_reverse.mp hc)) _ _ _ _ _ _ _ _ _ _ _ _ _ _ _ _ _ ‹_› ‹_› ‹_› ‹_› ‹_› (by first|assumption|rfl) ?pre (by walk_at "r") (by walk_at "u") ?_);(case pre=>first|exact trivial|assumption)
 intro v n' h' tk' hv F N
 (refine Uc.ex1 hv fun r8=>Uc.an3 fun e1q e2q hI9=>?_;clear hv;subst e1q;subst e2q)
 have N2:=News.sub (b:=(a8.a,instObj 189 a8.d)::(a8.d,Uc.wsDq w a8 (mkS (rx.map ledC)))::(a8.P,Uc.wsPq a8 (mkS (rx.map ledC)))::(a8.T,Uc.wsTq a8)::(r8.a,instObj 189 r8.d)::(r8.d,Uc.wsDq w r8 (mkS (rx.reverse.map ledC)))::(r8.P,Uc.wsPq r8 (mkS (rx.reverse.map ledC)))::(r8.T,Uc.wsTq r8)::(R,W.listOf rs.toArray k)::led) N (by walk_at "I")
 clear N
 walk_at "X"
 (refine equal_c w p loose mean mg mb ((R,W.listOf rs.toArray k)::led) (mkS (rx.map ledC)) (mkS (rx.reverse.map ledC)) a8 r8 hI8 hI9 _ _ _ _ _ _ _ _ _ _ _ _ _ _ _ _ _ ‹_› ‹_› ‹_› ‹_› ‹_› (by first|assumption|rfl) ?pre (by walk_at "r") (by walk_at "u") ?_);(case pre=>first|exact trivial|assumption)
 first|refine kE0nv ?_|refine kE0vn ?_
 intro h' tk' F N
 obtain⟨bq,hbq⟩:∃bq,bq=wsEq (wsOf (mkS (rx.map ledC))) (wsOf (mkS (rx.reverse.map ledC))):=⟨_,rfl⟩
 rw[<-hbq]
 have hrsl:rs.length=runs.length:=by rw[intsAre_len hr,List.length_map]
 walk_at "X"
 ·rename ((bq !=_)=true)=>hz
  exfalso
  rw[hbq,hEq,show(runs.map fun(n:Nat)=>(n:Int)).getD (Int.toNat 0) 0=((runs.getD 0 0:Nat):Int) from getD_nums hr1] at hz
  have e:((trail:Int)==((runs.getD 0 0:Nat):Int))=decide (trail=runs.getD 0 0):=by
   rw[Bool.eq_iff_iff,beq_iff_eq,decide_eq_true_iff]
   omega
  rw[e] at hz
  simp at hz
 ·dsimp only[List.append_nil,List.cons_append,List.nil_append]
  (refine longest_c w p loose mean mg mb _ (mkS (rx.map ledC)) a8 hI8 hl8 hb8 _ _ _ _ _ _ _ _ _ _ _ _ _ _ _ _ _ ‹_› ‹_› ‹_› ‹_› ‹_› (by first|assumption|rfl) ?pre (by walk_at "r") (by walk_at "u") ?_);(case pre=>first|exact trivial|assumption)
  refine kEn1v ?_
  intro t5 h' tk' F N
  walk_at "X"
  ·rename (_∈List.map _ runs++_)=>hM1
   rename (∀a,a∈List.map _ runs++_->_)=>hM2
   rename (wsLong _≠_)=>hM3
   exact absurd (Int.le_antisymm (hM2 _ hL1) (hL2 _ hM1)) hM3
  ·exact ret _ _ ‹_› (News.sub ‹_› (by walk_at "I"))
end
end Uc
end
section
namespace Uc
open PyProof.Rows.LCg
section
variable (w:World)(p:Program)(loose:List Str)(mean:ExcName->Option Value)(mg mb:Str->Option Value)
theorem l1_seg10 {h₀:Heap}{L fa:Addr}{cd:Value}{s:Shared}{Q:Flow->Shared->Prop}{E:Value->Shared->Prop}{m:Str->Option Value}{A₀:Around}{base:Heap}{outer:List Env}{dp un:Nat}{gd:Option (List Code)}(B:Below A₀ base outer h₀)(hpre:CodeHd base 213 209)(hdp:dp+30<recursionLimit)(hun:un+120<cLine)(X:(K w.params).In h₀)(T:Top p loose mean mg mb h₀)
  {o4:Obj} {led:Led} {x:Str} {a8:WsA} (d4:o4.data=.cell none) {nms:Nms}
  (F:Fr h₀ L s.heap (fm m ((ofString "lead",.ref a8.a)::nms))) (N:News h₀ L s.heap ((a8.a,instObj 189 a8.d)::(a8.d,Uc.wsDq w a8 x)::(a8.P,Uc.wsPq a8 x)::(a8.T,Uc.wsTq a8)::(L+4,o4)::led))
  (n1:@Ne Nat a8.a (L+4)) (n2:@Ne Nat a8.d (L+4)) (n3:@Ne Nat a8.P (L+4)) (n4:@Ne Nat a8.T (L+4)) (n5:∀q∈led,q.1≠L+4)
  (ret:∀h' tk' o4',o4'.data=.cell (some (.ref a8.T))->Fr h₀ L h' (fun y=>if y=ofString "behind" then some (.int ((wsOf x).b:Int) a8.tb) else fm m ((ofString "lead",.ref a8.a)::nms) y)->News h₀ L h' ((a8.a,instObj 189 a8.d)::(a8.d,Uc.wsDq w a8 x)::(a8.P,Uc.wsPq a8 x)::(a8.T,Uc.wsTq a8)::(L+4,o4')::led)->Q .next { s with heap:=h',toks:=tk' }):
  wpAny (model Pm w) (lawA dp un gd outer L fa cd) (execs [ls13] (lawEnv L fa cd)) Q E s:=by
 revert X
 dsimp only[Pm]
 k_fill
 intro X
 unfold ls13
 dsimp only[lawEnv,lawA,lawCl]
 (refine Uc.letAE ?_;intro AA EE)
 walk_at "X"
 rename Fr _ _ _ _=>F9
 rename News _ _ _ _=>N9
 rename (_=Data.cell (some (Value.ref a8.T)))=>d'
 walk_at "H";exact ret _ _ _ d' F9 N9
end
end Uc
end
section
namespace Uc
open PyProof.Rows.LCg
theorem rest_eq (ox nums:List Nat)(m:Nat):restOf ox nums m=(((List.range m).map fun i=>(ox,nums.getD (3+i) 0)).map fun p=>spelled p.1 p.2).flatten:=by
 unfold restOf
 rw[List.map_map]
 rfl
theorem last_count {z:Nat}(h:z∈lastTab): [z,101,110,100].count 10=0:=by
 revert z
 decide
theorem range_rep {α:Type}(x:α):∀n,(List.range n).map (fun _=>x)=List.replicate n x
 |0=>rfl
 |n+1=>by rw[List.range_succ,List.map_append,range_rep x n,List.replicate_succ'];rfl
section
variable (w:World)(p:Program)(loose:List Str)(mean:ExcName->Option Value)(mg mb:Str->Option Value)
theorem law1_body {h₀:Heap}{L fa:Addr}{cd:Value}{s:Shared}{Q:Flow->Shared->Prop}{E:Value->Shared->Prop}{m:Str->Option Value}{A₀:Around}{base:Heap}{outer:List Env}{dp un:Nat}{gd:Option (List Code)}(B:Below A₀ base outer h₀)(hpre:CodeHd base 213 209)(hdp:dp+30<recursionLimit)(hun:un+120<cLine)(hE:PassesOwn (model Pm w) (lawA dp un gd outer L fa cd) (lawEnv L fa cd) E)(X:(K w.params).In h₀)(T:Top p loose mean mg mb h₀)
  {sc:Addr} {vs:List Value} {ns:List Int} (hsc:h₀.IsList sc vs.toArray) (hI:IntsAre vs ns) (hlen:vs.length<=63) {o1 o2 o3 o4 o5 o6:Obj} (d1:o1.data=.cell (some (.ref sc))) (d2:o2.data=.cell none) (d3:o3.data=.cell none) (d4:o4.data=.cell none) (d5:o5.data=.cell none) (d6:o6.data=.cell none)
  (F:Fr h₀ L s.heap m) (N:News h₀ L s.heap [(L+6,o6),(L+5,o5),(L+4,o4),(L+3,o3),(L+2,o2),(L+1,o1),(209,tabObj #[])]) (hTB:@LT.lt Nat _ 209 L)
  (ret:∀h' tk' m' tps news',Fr h₀ L h' m'->News h₀ L h' ((209,tabObj tps)::news')->Q (.ret (.bool true)) { s with heap:=h',toks:=tk' }):
  wpAny (model Pm w) (lawA dp un gd outer L fa cd) (execs f23_body (lawEnv L fa cd)) Q E s:=by
 rw[law_stmts]
 refine execs_app [ls0,ls1] ?_
 refine @l1_seg1 w p loose mean mg mb _ _ _ _ _ _ _ _ _ _ _ _ _ _ B hpre hdp hun X T _ _ _ hsc hI hlen _ _ _ _ _ _ d1 d2 F N hTB ?_
 intro h' tk' u1 D ys nums hn hb hI1 F N hne
 (try dsimp only)
 refine execs_app [ls2,ls3] ?_
 refine @l1_seg2 w p loose mean mg mb _ _ _ _ _ _ _ _ _ _ _ _ _ _ B hpre hdp hun X T _ _ _ _ hn hb hI1 F N ?_
 intro h' tk' u2 Ru rs rk tt hrs F N hneR
 (try dsimp only)
 obtain⟨runs,hruns⟩:∃runs,runs=runsOf (nums.getD 0 0):=⟨_,rfl⟩
 obtain⟨trail,htrail⟩:∃trail,trail=trailOf (nums.getD 0 0):=⟨_,rfl⟩
 have hR:=rul_get (rul_ok (nums.getD 0 0))
 rw[<-hruns, <-htrail] at hR
 rw[<-hruns] at hrs
 rw[<-htrail] at F
 refine execs_app [ls4,ls5,ls6] ?_
 refine @l1_seg3 w p loose mean mg mb _ _ _ _ _ _ _ _ _ _ _ _ _ _ B hpre hdp hun X T _ _ _ _ _ _ _ hn hb hI1 F (News.sub (b:=(D,lst ys)::(Ru,W.listOf rs.toArray rk)::[(L+6,o6),(L+5,o5),(L+4,o4),(L+3,o3),(209,tabObj #[])]) N pmW) ?_
 clear F N
 intro h' tk' u3 t1 t2 t3 F N
 (try dsimp only)
 obtain⟨hx,hhx⟩:∃hx,hx=headOf (nums.getD 1 0):=⟨_,rfl⟩
 obtain⟨ox,hox⟩:∃ox,ox=otherOf (nums.getD 1 0):=⟨_,rfl⟩
 (refine Uc.ex1 (last_in (nums.getD 1 0)) fun z=>Uc.an2 fun hzT hlx=>?_)
 have hxi:hx∈hxs:=by rw[hhx];exact head_in _
 have oxi:ox∈oxs:=by rw[hox];exact other_in _
 (refine Uc.ah3 (hx_ok hxi) fun hh1 hh2 hh3=>?_)
 (refine Uc.ah3 (ox_ok oxi) fun ho1 ho2 ho3=>?_)
 rw[<-hhx, <-hox,hlx] at F
 clear hhx hox hlx
 have hx2:∀c∈rulerOf runs trail,c=102∨c=105∨c=70∨c=73:=fun c hc=>(hR.x2 c hc).elim .inl fun e=>.inr (.inl e)
 refine execs_app [ls7] ?_
 refine @l1_seg4 w p loose mean mg mb _ _ _ _ _ _ _ _ _ _ _ _ _ _ B hpre hdp hun X T _ _ _ _ _ _ _ _ _ _ _ hrs hR.l3 hR.r2 hR.t2 F (News.sub (b:=(Ru,W.listOf rs.toArray rk)::(D,lst ys)::[(L+6,o6),(L+5,o5),(L+4,o4),(L+3,o3),(209,tabObj #[])]) N pmW) ?_
 clear F N
 intro h' tk' u4 t4 F N
 (try dsimp only)
 refine execs_app [ls8] ?_
 refine @l1_seg5 w p loose mean mg mb _ _ _ _ _ _ _ _ _ _ _ _ _ _ B hpre hdp hun X T _ _ _ _ _ _ _ _ _ _ _ _ _ _ hn hb hI1 hR.x8 hx2 (by omega) hh3 F N ?_
 clear F N
 intro h' tk' u5 t5 F N
 (try dsimp only)
 have el1:=spelled_len (rulerOf runs trail) (nums.getD 0 0 / 81) hR.x8
 have el2:=spelled_len hx (nums.getD 2 0) (by omega)
 refine execs_app [ls9] ?_
 refine @l1_seg6 w p loose mean mg mb _ _ _ _ _ _ _ _ _ _ _ _ _ _ B hpre hdp hun X T hE _ _ _ _ _ _ _ _ _ _ _ _ _ _ _ _ hn hb hI1 (by omega) ho3 (by rw[List.length_append];omega) hrs hR.l1 hR.s6 F N ?_
 clear F N
 intro h' tk' u6 t6 F N
 (try dsimp only)
 have el3:=restOf_len ox nums (by omega) (runs.sum+runs.length-1)
 have hs6:=hR.s6
 obtain⟨xt,hxt⟩:∃xt,xt=spelled (rulerOf runs trail) (nums.getD 0 0 / 81)++spelled hx (nums.getD 2 0)++restOf ox nums (runs.sum+runs.length-1):=⟨_,rfl⟩
 have hxl:xt.length<=300:=by rw[hxt,List.length_append,List.length_append];exact Nat.le_trans (Nat.add_le_add (Nat.add_le_add el1 el2) (Nat.le_trans el3 (Nat.mul_le_mul_left 21 (Nat.le_trans (Nat.sub_le _ 1) hs6)))) (by decide)
 rw[<-hxt] at F
 obtain⟨wl,hwl⟩:∃wl,wl=(hx,nums.getD 2 0)::(List.range (runs.sum+runs.length-1)).map fun i=>(ox,nums.getD (3+i) 0):=⟨_,rfl⟩
 have hs1:=hR.s1
 have hwll:wl.length=runs.sum+runs.length:=by rw[hwl,List.length_cons,List.length_map,List.length_range];omega
 have hahd:Ahd ((rulerOf runs trail,nums.getD 0 0 / 81)::wl) [z,101,110,100] (xt++[z,101,110,100]):=⟨[],(fun _ h=>nomatch h),by
  rw[List.nil_append,hwl,List.map_cons,List.map_cons,List.flatten_cons,List.flatten_cons, <-rest_eq,hxt,List.append_assoc (spelled _ _)]⟩
 have hwx:∀y∈wl,y.1.length<=8/\∀c∈y.1,c=102∨c=105∨c=70∨c=73:=fun y hy=>by
  rw[hwl] at hy
  rcases List.mem_cons.mp hy with rfl|hy
  ·exact⟨by show hx.length<=8;omega,hh3⟩
  ·(refine Uc.ex1 (List.mem_map.mp hy) fun i=>Uc.an2 fun _ e1q=>?_;subst e1q)
   exact⟨by show ox.length<=8;omega,ho3⟩
 have hq0:wl.map (·.1)=wordsOf hx ox (srOf runs trail):=by
  unfold wordsOf
  rw[hwl,List.map_cons,List.map_map,hR.ss]
  exact congrArg (List.cons hx) (range_rep ox _)
 clear hxt hwl
 (refine Uc.ah5 hne fun hn6 hn5 hn4 hn3 hnT=>?_;clear hne)
 have hneD:∀q∈[(L+6,o6),(L+5,o5),(L+4,o4),(L+3,o3),(209,tabObj #[])],q.1≠D:=fun q hq=>by
  simp only[List.mem_cons,List.not_mem_nil,or_false] at hq
  rcases hq with rfl|rfl|rfl|rfl|rfl
  ·exact hn6
  ·exact hn5
  ·exact hn4
  ·exact hn3
  ·exact hnT
 refine wpAny_execs_cons ?_
 refine @l1_seg7 w p loose mean mg mb _ _ _ _ _ _ _ _ _ _ _ _ _ _ B hpre hdp hun X T _ _ _ _ _ _ _ _ _ _ _ _ _ _ _ _ _ hxl (by show 4<=10;omega) d3 hTB hneR hneD F N ?_
 clear F N
 intro h' tk' q tl pn ss sn tps o3' d3' hss ok F N
 (try dsimp only)
 (refine Uc.ex1 (ahd_next hahd hx2) fun cs'=>Uc.an2 fun hA htok=>?_)
 obtain⟨LN,hLN⟩:∃LN:Int,LN=1+(xt.count 10:Nat):=⟨_,rfl⟩
 have hcnt:(xt++[z,101,110,100]).count 10=xt.count 10:=by rw[List.count_append,last_count hzT];rfl
 have hcl:xt.count 10<=300:=Nat.le_trans List.count_le_length hxl
 have e1:(1:Int)=LN-((xt++[z,101,110,100]).count 10:Nat):=by rw[hLN,hcnt];omega
 rw[e1] at N
 have hsm:=tok_small (xt++[z,101,110,100])
 rw[htok] at hsm
 dsimp only at hsm
 have hcsl:(xt++[z,101,110,100]).length<=310:=by rw[List.length_append];show _+4<=_;omega
 refine execs_app [ls11] ?_
 have hx8:=hR.x8
 refine @l1_seg8 w p loose mean mg mb _ _ _ _ _ _ _ _ _ _ _ _ _ _ B hpre hdp hun X T _ _ _ _ _ _ _ _ _ _ _ _ _ _ _ _ _ _ _ _ d3' hss htok (by omega) (by rw[hcnt,hLN];omega) (by omega) hR.x2 ok F N ?_
 clear N F
 intro h' tk' tl' pn' ss' sn' a8 hss' F N hI8
 (try dsimp only)
 have hx2':=hR.x2
 have hvl:a8.vs.length=(csOf runs trail).length:=by rw[intsAre_len hI8];show(rulW runs trail).cs.length=_;rw[hR.cs,List.length_map]
 have hc10:=hR.c10
 have hb10:=hR.b10
 have hl3:=hR.l3
 have n65:@Ne Nat (L+6) (L+5):=by omega
 have n35:@Ne Nat (L+3) (L+5):=by omega
 have n36:@Ne Nat (L+3) (L+6):=by omega
 have n64:@Ne Nat (L+6) (L+4):=by omega
 have n54:@Ne Nat (L+5) (L+4):=by omega
 have n34:@Ne Nat (L+3) (L+4):=by omega
 have nT4:@Ne Nat 209 (L+4):=by omega
 have nT5:@Ne Nat 209 (L+5):=by omega
 have nT6:@Ne Nat 209 (L+6):=by omega
 have mW:∀r∈wsLed w (mkS ((rulerOf runs trail).map ledC)) a8,r∈(a8.a,instObj 189 a8.d)::(a8.d,Uc.wsDq w a8 (mkS ((rulerOf runs trail).map ledC)))::(a8.P,Uc.wsPq a8 (mkS ((rulerOf runs trail).map ledC)))::(a8.T,Uc.wsTq a8)::(lexLed w q (LN-cs'.count 10) tl' [] pn' ss' sn'++[(209,tabObj tps),(Ru,W.listOf rs.toArray rk),(D,lst ys),(L+6,o6),(L+5,o5),(L+4,o4),(L+3,o3')]):=ws_mem
 have mX:∀r∈lexLed w q (LN-cs'.count 10) tl' [] pn' ss' sn',r∈(a8.a,instObj 189 a8.d)::(a8.d,Uc.wsDq w a8 (mkS ((rulerOf runs trail).map ledC)))::(a8.P,Uc.wsPq a8 (mkS ((rulerOf runs trail).map ledC)))::(a8.T,Uc.wsTq a8)::(lexLed w q (LN-cs'.count 10) tl' [] pn' ss' sn'++[(209,tabObj tps),(Ru,W.listOf rs.toArray rk),(D,lst ys),(L+6,o6),(L+5,o5),(L+4,o4),(L+3,o3')]):=fun r hr=>(.tail _ (.tail _ (.tail _ (.tail _ (List.mem_append_left _ hr)))))
 have mR:∀r∈[(209,tabObj tps),(Ru,W.listOf rs.toArray rk),(D,lst ys),(L+6,o6),(L+5,o5),(L+4,o4),(L+3,o3')],r∈(a8.a,instObj 189 a8.d)::(a8.d,Uc.wsDq w a8 (mkS ((rulerOf runs trail).map ledC)))::(a8.P,Uc.wsPq a8 (mkS ((rulerOf runs trail).map ledC)))::(a8.T,Uc.wsTq a8)::(lexLed w q (LN-cs'.count 10) tl' [] pn' ss' sn'++[(209,tabObj tps),(Ru,W.listOf rs.toArray rk),(D,lst ys),(L+6,o6),(L+5,o5),(L+4,o4),(L+3,o3')]):=fun r hr=>(.tail _ (.tail _ (.tail _ (.tail _ (List.mem_append_right _ hr)))))
 have m6:=mR (L+6,o6) (.tail _ (.tail _ (.tail _ (.head _))))
 have m5:=mR (L+5,o5) (.tail _ (.tail _ (.tail _ (.tail _ (.head _)))))
 have m4:=mR (L+4,o4) (.tail _ (.tail _ (.tail _ (.tail _ (.tail _ (.head _))))))
 have x6:=lex_cell N ok mX m6 d6
 have x5:=lex_cell N ok mX m5 d5
 have x4:=lex_cell N ok mX m4 d4
 have w6:=ws_cell N m6 d6 mW
 have w5:=ws_cell N m5 d5 mW
 have w4:=ws_ne (P:=fun a=>a≠L+4) (ws_cell N m4 d4 mW)
 have wq:=ws_off N mX mW
 have R5:@Ne Nat Ru (L+5):=(hneR (L+5,o5) (.tail _ (.tail _ (.head _)))).symm
 have R6:@Ne Nat Ru (L+6):=(hneR (L+6,o6) (.tail _ (.head _))).symm
 have R4:@Ne Nat Ru (L+4):=(hneR (L+4,o4) (.tail _ (.tail _ (.tail _ (.head _))))).symm
 have RT:@Ne Nat 209 Ru:=hneR (209,tabObj #[]) (.tail _ (.tail _ (.tail _ (.tail _ (.tail _ (.head _))))))
 clear mW mX mR m4 m5 m6
 refine execs_app [ls12] ?_
 obtain⟨u9,F9⟩:∃u9,Fr h₀ L h' (fm u9 [(ofString "lead",.ref a8.a),(ofString "ruler",.str ⟨(rulerOf runs trail).toArray⟩ t4),(ofString "runs",.ref Ru),(ofString "trail",.int (trail:Int) tt),(ofString "text",.str ⟨xt.toArray⟩ t6),(ofString "head",.str ⟨hx.toArray⟩ t1),(ofString "other",.str ⟨ox.toArray⟩ t2),(ofString "last",.str ⟨[z,101,110,100].toArray⟩ t3),(ofString "numbers",.ref D)]):=⟨_,toFm F _ ⟨rfl,rfl,rfl,rfl,rfl,rfl,rfl,rfl,rfl,trivial⟩⟩
 clear F
 refine @l1_seg9 w p loose mean mg mb _ _ _ _ _ _ _ _ _ _ _ _ _ _ B hpre hdp hun X T _ _ _ _ _ _ _ _ _ _ _ _ _ _ _ (by omega) hx2' hrs hI8 hR.l3 hR.l1 hR.eq (by omega) (by show(rulW runs trail).b<=1000;omega) hR.g1 hR.g2 F9 (News.sub (b:=(a8.a,instObj 189 a8.d)::(a8.d,Uc.wsDq w a8 (mkS ((rulerOf runs trail).map ledC)))::(a8.P,Uc.wsPq a8 (mkS ((rulerOf runs trail).map ledC)))::(a8.T,Uc.wsTq a8)::(Ru,W.listOf rs.toArray rk)::(lexLed w q (LN-cs'.count 10) tl' [] pn' ss' sn'++[(209,tabObj tps),(D,lst ys),(L+6,o6),(L+5,o5),(L+4,o4),(L+3,o3')])) N pmL) ?_
 clear N F9
 intro h' tk' F N
 (try dsimp only)
 refine execs_app [ls13] ?_
 refine @l1_seg10 w p loose mean mg mb _ _ _ _ _ _ _ _ _ _ _ _ _ _ B hpre hdp hun X T _ _ ((mkS ((rulerOf runs trail).map ledC))) (a8) d4 _ F (News.sub (b:=(a8.a,instObj 189 a8.d)::(a8.d,Uc.wsDq w a8 (mkS ((rulerOf runs trail).map ledC)))::(a8.P,Uc.wsPq a8 (mkS ((rulerOf runs trail).map ledC)))::(a8.T,Uc.wsTq a8)::(L+4,o4)::(lexLed w q (LN-cs'.count 10) tl' [] pn' ss' sn'++[(209,tabObj tps),(Ru,W.listOf rs.toArray rk),(L+6,o6),(L+5,o5),(L+3,o3')])) N pmM) w4.1 w4.2.1 w4.2.2.1 w4.2.2.2 (fun r hr=>(List.mem_append.mp hr).elim (x4 r) (fcons (P:=fun r:Addr×Obj=>r.1≠L+4) nT4 (fcons (P:=fun r:Addr×Obj=>r.1≠L+4) R4 (fcons (P:=fun r:Addr×Obj=>r.1≠L+4) n64 (fcons (P:=fun r:Addr×Obj=>r.1≠L+4) n54 (fcons (P:=fun r:Addr×Obj=>r.1≠L+4) n34 (fun _ h=>absurd h List.not_mem_nil))))) r)) ?_
 clear N F
 intro h' tk' o4' d4' F N
 (try dsimp only)
 refine execs_app [ls14] ?_
 refine @l1_seg11 w p loose mean mg mb _ _ _ _ _ _ _ _ _ _ _ _ _ _ B hpre hdp hun X T _ (a8.T) _ (a8.vs) (csOf runs trail) d4' (by have:=hI8;rw[show(wsOf (mkS ((rulerOf runs trail).map ledC))).cs=(rulW runs trail).cs from rfl,hR.cs] at this;exact this) hR.c10 hR.cle F (News.sub (b:=(L+4,o4')::(a8.T,{ cls:=Value.type "tuple",data:=Data.seq a8.vs.toArray })::((a8.a,instObj 189 a8.d)::(a8.d,Uc.wsDq w a8 (mkS ((rulerOf runs trail).map ledC)))::(a8.P,Uc.wsPq a8 (mkS ((rulerOf runs trail).map ledC)))::(a8.T,Uc.wsTq a8)::(lexLed w q (LN-cs'.count 10) tl' [] pn' ss' sn'++[(209,tabObj tps),(Ru,W.listOf rs.toArray rk),(L+6,o6),(L+5,o5),(L+3,o3')]))) N pmN) ?_
 clear N F
 intro h' tk' Dz zs hz F N hneZ
 (try dsimp only)
 replace hz:IntsAre zs ((srOf runs trail).map fun(n:Nat)=>(n:Int)):=hz
 have zl:∀r∈lexLed w q (LN-cs'.count 10) tl' [] pn' ss' sn',r.1≠Dz:=fun r hr=>hneZ r (.tail _ (.tail _ (.tail _ (.tail _ (.tail _ (.tail _ (List.mem_append_left _ hr)))))))
 have zr:∀r∈[(209,tabObj tps),(Ru,W.listOf rs.toArray rk),(L+6,o6),(L+5,o5),(L+3,o3')],r.1≠Dz:=fun r hr=>hneZ r (.tail _ (.tail _ (.tail _ (.tail _ (.tail _ (.tail _ (List.mem_append_right _ hr)))))))
 have zq:=lex_off1 (oD:=lst zs) (R:=[]) (fun r hr=>zl r (by rw[List.append_nil] at hr;exact hr)) _ (.head _)
 have z5:@Ne Nat Dz (L+5):=(zr (L+5,o5) (.tail _ (.tail _ (.tail _ (.head _))))).symm
 have z6:@Ne Nat Dz (L+6):=(zr (L+6,o6) (.tail _ (.tail _ (.head _)))).symm
 have okl:=ok.all
 have okT:=okl _ (.head _)
 have okU:=okl _ (.tail _ (.head _))
 have ok6:=okl _ (.tail _ (.tail _ (.tail _ (.head _))))
 have ok5:=okl _ (.tail _ (.tail _ (.tail _ (.tail _ (.head _)))))
 have ok3:=okl _ (.tail _ (.tail _ (.tail _ (.tail _ (.tail _ (.tail _ (.head _)))))))
 have okW:=fun(l:Led) (h:∀r∈l,r.1≠q.D/\r.1≠q.PB/\r.1≠q.SG)=>off_ws (P:=fun a=>a≠q.D/\a≠q.PB/\a≠q.SG) wq h
 refine wpAny_execs_cons ?_
 obtain⟨u9,F9⟩:∃u9,Fr h₀ L h' (fm u9 [(ofString "behind",.int ((wsOf (mkS ((rulerOf runs trail).map ledC))).b:Int) a8.tb),(ofString "lead",.ref a8.a),(ofString "sizes",.ref Dz),(ofString "runs",.ref Ru),(ofString "head",.str ⟨hx.toArray⟩ t1),(ofString "other",.str ⟨ox.toArray⟩ t2),(ofString "last",.str ⟨[z,101,110,100].toArray⟩ t3),(ofString "text",.str ⟨xt.toArray⟩ t6)]):=⟨_,toFm F _ ⟨rfl,rfl,rfl,rfl,rfl,rfl,rfl,rfl,trivial⟩⟩
 clear F
 refine @l1_seg12 w p loose mean mg mb _ _ _ _ _ _ _ _ _ _ _ _ _ _ B hpre hdp hun hE X T _ _ _ _ _ _ _ _ _ _ _ _ _ _ _ _ _ _ _ _ ((a8.a,instObj 189 a8.d)::(a8.d,Uc.wsDq w a8 (mkS ((rulerOf runs trail).map ledC)))::(a8.P,Uc.wsPq a8 (mkS ((rulerOf runs trail).map ledC)))::(a8.T,Uc.wsTq a8)::[(Dz,lst zs),(Ru,W.listOf rs.toArray rk),(L+6,o6),(L+5,o5)]) d3' (by rw[hwll];exact hR.nb) (by omega) hwx hss' hA (by omega) (by have:=hsm.2;rw[hcnt] at this;rw[hLN];omega) ws_mem (ok.on (cons_off (P:=fun a=>a≠q.D/\a≠q.PB/\a≠q.SG) okT (cons_off (P:=fun a=>a≠q.D/\a≠q.PB/\a≠q.SG) ok3 (okW _ (cons_off (P:=fun a=>a≠q.D/\a≠q.PB/\a≠q.SG) zq (cons_off (P:=fun a=>a≠q.D/\a≠q.PB/\a≠q.SG) okU (cons_off (P:=fun a=>a≠q.D/\a≠q.PB/\a≠q.SG) ok6 (cons_off (P:=fun a=>a≠q.D/\a≠q.PB/\a≠q.SG) ok5 (fun _ h=>absurd h List.not_mem_nil))))))))) F9 (News.sub N pmO) ?_
 clear N F9
 intro h' tk' tl6 pn6 ss6 sn6 cs6 u10 ps hss6 hA6 hl6 hc6 hps F N
 (try dsimp only)
 have hlaw:=law_all hR.sr hxi oxi
 have hps':StrsAre ps ((wordsOf hx ox (srOf runs trail)).map mkS):=by rw[<-hq0,List.map_map];exact hps
 have hm2:=hR.m2
 have hpl:=hR.pm.length_eq
 refine wpAny_execs_cons ?_
 refine @l1_seg13 w p loose mean mg mb _ _ _ _ _ _ _ _ _ _ _ _ _ _ B hpre hdp hun hE X T (Dz) (Ru) _ _ _ _ _ _ _ _ _ _ _ _ _ (mOf runs trail) _ _ _ _ (srOf runs trail) (runs) (wordsOf hx ox (srOf runs trail)) (hx) (ox) _ _ ((209,tabObj tps)::(a8.a,instObj 189 a8.d)::(a8.d,Uc.wsDq w a8 (mkS ((rulerOf runs trail).map ledC)))::(a8.P,Uc.wsPq a8 (mkS ((rulerOf runs trail).map ledC)))::(a8.T,Uc.wsTq a8)::[]) (a8) ((mkS ((rulerOf runs trail).map ledC))) d3' d5 d6 hz hrs (by omega) hR.pm hR.so (fun x hx=>by have:=hR.sm x hx;omega) hh1 hh2 ho1 ho2 hI8 (by omega) (by show(rulW runs trail).b<=1000;omega) hR.m (by omega) hps' (fun t ht=>law_rnd hlaw (by omega)) (law_end hlaw (by omega) hR.sm) (fun r hr=>.tail _ (ws_mem r hr)) (ok.on (cons_off (P:=fun a=>a≠q.D/\a≠q.PB/\a≠q.SG) ok5 (cons_off (P:=fun a=>a≠q.D/\a≠q.PB/\a≠q.SG) ok6 (cons_off (P:=fun a=>a≠q.D/\a≠q.PB/\a≠q.SG) ok3 (cons_off (P:=fun a=>a≠q.D/\a≠q.PB/\a≠q.SG) zq (cons_off (P:=fun a=>a≠q.D/\a≠q.PB/\a≠q.SG) okU (cons_off (P:=fun a=>a≠q.D/\a≠q.PB/\a≠q.SG) okT (okW _ (fun _ h=>absurd h List.not_mem_nil))))))))) (lex_offP (P:=fun a=>a≠L+5/\a≠L+6) (fun r hr=>⟨x5 r hr,x6 r hr⟩)) (cons_off (P:=fun a=>a≠L+5/\a≠L+6) ⟨z5,z6⟩ (cons_off (P:=fun a=>a≠L+5/\a≠L+6) ⟨R5,R6⟩ (cons_off (P:=fun a=>a≠L+5/\a≠L+6) ⟨nT5,nT6⟩ (off_ws (P:=fun a=>a≠L+5/\a≠L+6) (fun r hr=>⟨w5 r hr,w6 r hr⟩) (fun _ h=>absurd h List.not_mem_nil))))) F (News.sub N pmP) ?_
 clear N F
 intro h' tk' u11 pn7 o5z o6z F N
 (try dsimp only)
 obtain⟨u12,F9⟩:∃u12,Fr h₀ L h' (fm u12 [(ofString "last",.str (mkS [z,101,110,100]) t3),(ofString "text",.str (mkS xt) t6)]):=⟨_,toFm F _ ⟨rfl,rfl,trivial⟩⟩
 clear F
 refine @l1_seg14 w p loose mean mg mb _ _ _ _ _ _ _ _ _ _ _ _ _ _ B hpre hdp hun hE X T _ _ _ _ _ _ _ _ _ _ _ _ _ ([]) d3' hzT hss6 hA6 hl6 ⟨hc6,by rw[hLN];omega⟩ hLN (by omega) (ok.on (cons_off (P:=fun a=>a≠q.D/\a≠q.PB/\a≠q.SG) okT (cons_off (P:=fun a=>a≠q.D/\a≠q.PB/\a≠q.SG) ok3 (fun _ h=>absurd h List.not_mem_nil)))) F9 (News.sub N pmQ) ?_
 intro h' tk' m9 news' F N
 exact ret _ _ _ _ _ F N
end
end Uc
end
section
namespace Uc
noncomputable def st23:Stmt:=by
 refine(fun(_:Challenge.pw_uc0057_01.main.body[23]? =some (.FunctionDef ?qn ?qa ?qb ?qd ?qr ?qt ?qs ?qv ?qc ?qp))=>.FunctionDef ?qn ?qa ?qb ?qd ?qr ?qt ?qs ?qv ?qc ?qp) ?qh
 exact rfl
noncomputable def qv:Program:={ Challenge.pw_uc0057_01 with main:={ Challenge.pw_uc0057_01.main with body:=[st23] } }
noncomputable def qLoose:List Str:=[ofString "_wall",ofString "_netrclex",ofString "b1_set",ofString "in_table_b1",ofString "b3_exceptions",ofString "map_table_b3",ofString "Whitespace",ofString "_MAX_STRING_SIZE",ofString "_MOVE_COST",ofString "_CASE_COST",ofString "_substitution_cost",ofString "_levenshtein_distance",ofString "_law_lexer",ofString "_law_spelled",ofString "_law_kept",ofString "_law_small",ofString "_law_lead",ofString "_law_due"]
noncomputable abbrev rowC:=Challenge.rw_uc0057_01.row
noncomputable def hook:Hook:=kmHook K Kas (fun _=>by kernel_rfl) [209]
theorem lawNews {h₀ h:Heap}{L:Addr}{o1 o2 o3 o4 o5 o6 T:Obj}(N:News h₀ L h [(L+1+1+1+1+1+1,o6),(L+1+1+1+1+1,o5),(L+1+1+1+1,o4),(L+1+1+1,o3),(L+1+1,o2),(L+1,o1),(209,T)]):News h₀ L h [(L+6,o6),(L+5,o5),(L+4,o4),(L+3,o3),(L+2,o2),(L+1,o1),(209,T)]:=N
theorem look2 {a b:Bool}(x:a=true)(y:b=true):(a&&b)=true:=by rw[x,y];rfl
theorem wS:OpenLaw.wellSaid Challenge.rw_uc0057_01=true:=by
 unfold OpenLaw.wellSaid OpenRow.wellSaid OpenRow.partSaid looksOpen
 repeat' (with_reducible refine look2 ?_ ?_)
 all_goals decide+kernel
theorem head_of (hl:LeftO Challenge.pw_uc0057_01 qv qLoose (fun s=>xlAt qv [] s&&recOk (RowW.records rowC.toRowW) s) hook.obs hook.val 40000):Challenge.rw_uc0057_01.Holds:=by
 w_on
 refine holds_law wS fun said=>?_
 refine holds_open (q:=qv) (loose:=qLoose) (Xt:=fun s=>xlAt qv [] s&&recOk (RowW.records rowC.toRowW) s) (XP:=XL qv []) (Yf:=hook.obs) (Ya:=hook.val) (YP:=hook.says) (N:=40000) hl hook.of hook.keeps (fun s e=>xl_of s (Bool.and_eq_true_iff.mp e).1) XL.keeps (by rfl) (by rfl) (by rfl) (fun s e=>recFacts_of (Bool.and_eq_true_iff.mp e).2) (by rfl) (by first|assumption|decide+kernel) (by decide+kernel) ⟨rfl,rfl,rfl,rfl,rfl,by decide+kernel⟩ ?hw ?hc
 case hw=>w_witness2
 case hc=>
  unfold hook
  k_fill
  intro w s₀ s₁ mg mb G Y fa o pm cd doc dV kV ho hd hcd hD hmg hg args vals as hpre hlay hrd hwl hlo
  have KX:=km_in_of Y
  km_tabs Y
  have X:=(Ground.X G).1
  have V:=(Ground.X G).2
  refine Ground.open G ?_
  intro T B D TE TW
  try(refine guard_noD D (by decide+kernel) ?_;clear D)
  have hK9:codeHdIn (K w.params) 213 209=true:=by kernel_rfl
  have hT9:TabsAt ([(213,209)]:List (Addr×Addr)) _:=List.forall_mem_cons.mpr ⟨⟨codeHd_of_K (c:=213) (P:=209) KX hK9,hT8 209 (by k_mem)⟩,fun _ h=>nomatch h⟩
  clear hmg
  wrow_args hpre hlay hrd hwl hlo
  refine enter_call ?_
  w_top on
  kn_posts
  w_call any ho hd hcd hD T F
  clear hd
  kn_ghosts F T
  k_drop
  clear hl Y ho hcd hT8 X V B TE TW hK9 hT9
  rename IntsAre _ _=>hI1
  rename Heap.IsList (ghostOf _ _) _ _=>hsc
  rename CodeHd _ _ _=>hcd1
  rename Below _ _ [] _=>B1
  rename Frag.In _ (ghostOf _ _)=>X1
  rename Top _ _ _ _ _ (ghostOf _ _)=>T1
  rename News _ _ _ _=>N1
  rename Fr _ _ _ _=>F1
  rename (_<Array.size _)=>l209
  have hlen:=hI1.length
  show wpAny (model Pm w) (lawA _ _ _ [] _ fa cd) (execs f23_body (lawEnv s₁.heap.objs.size fa cd)) _ _ _
  refine @law1_body w _ _ _ _ _ _ _ _ _ _ _ _ _ _ _ _ _ _ _ B1 hcd1 ?hdp ?hun ?hE X1 T1 _ _ _ hsc hI1 ?len _ _ _ _ _ _ ?d1 ?d2 ?d3 ?d4 ?d5 ?d6 F1 (lawNews N1) l209 ?ret
  case hdp=>decide
  case hun=>decide
  case hE=>passes_own
  case len=>omega
  case d1=>assumption
  case d2=>assumption
  case d3=>assumption
  case d4=>assumption
  case d5=>assumption
  case d6=>assumption
  case ret=>
   intro h' tk' m' tps news' F N
   refine⟨?_,GrownAt.of N (.head _),trivial⟩
   refine⟨.inl ⟨.bool true,.bool true,[],rfl,fun _=>rfl,.bool _,by first|rfl|wrow_post,fun _=>⟨List.nodup_nil,fun _ h=>(nomatch h)⟩⟩,F.keep,rfl,hg⟩
end Uc
end
set_option tactic.hygienic true
section
namespace Uc
noncomputable def hLife (P:Params):Life:=(boot_heap P).life
noncomputable def ha_12 (P:Params):Obj:=⟨.none,none,(.fields [].toArray),[].toArray⟩
noncomputable def hTa (P:Params):BT:=(.node (boot_o_0 P) (.node (boot_o_1 P) (.node (boot_o_3 P) (.node (boot_o_7 P) .nil .nil) (.node (o11 P) .nil .nil)) (.node (boot_o_5 P) (.node (boot_o_9 P) .nil .nil) (.node (o13 P) .nil .nil))) (.node (boot_o_2 P) (.node (boot_o_4 P) (.node (boot_o_8 P) .nil .nil) (.node (ha_12 P) .nil .nil)) (.node (boot_o_6 P) (.node (boot_o_10 P) .nil .nil) (.node (o14 P) .nil .nil))))
noncomputable def hSa (w:World)(os:OsState):SharedT:=⟨hTa w.params,15,hLife w.params,#[],boot_drawn,187,os⟩
noncomputable def hTb (P:Params):BT:=(.node (boot_o_0 P) (.node (boot_o_1 P) (.node (boot_o_3 P) (.node (boot_o_7 P) .nil .nil) (.node (o11 P) .nil .nil)) (.node (boot_o_5 P) (.node (boot_o_9 P) .nil .nil) (.node (o13 P) .nil .nil))) (.node (boot_o_2 P) (.node (boot_o_4 P) (.node (boot_o_8 P) .nil .nil) (.node (ha_12 P) .nil .nil)) (.node (boot_o_6 P) (.node (boot_o_10 P) .nil .nil) (.node (o14 P) .nil .nil))))
noncomputable def hSb (w:World)(os:OsState):SharedT:=⟨hTb w.params,15,hLife w.params,#[],boot_drawn,187,os⟩
noncomputable def hEnv:Env:={ scope:=Challenge.pw_uc0057_01.main.scope,locals:=mainNs,globals:=mainNs,cells:=[],code:=(.ref 13),frame:=some 14 }
noncomputable def hCode:Code:=.body (behindTheImports Challenge.pw_uc0057_01) hEnv
noncomputable def hAnn:Option Value:=(some (.ref 6))
noncomputable def hFp:Pos:=⟨0,0,0,0⟩
noncomputable def h0_3 (P:Params):Obj:=⟨(.type "dict"),none,(.dict [⟨PyData.keyHash P (ofString "__name__"),(.str (ofString "__name__") 165),(.str (ofString "cpy313.stringprep") 254)⟩,⟨PyData.keyHash P (ofString "__doc__"),(.str (ofString "__doc__") 166),.none⟩,⟨PyData.keyHash P (ofString "__package__"),(.str (ofString "__package__") 167),.none⟩,⟨PyData.keyHash P (ofString "__loader__"),(.str (ofString "__loader__") 168),(.builtin "__main__.__loader__#opaque")⟩,⟨PyData.keyHash P (ofString "__spec__"),(.str (ofString "__spec__") 169),.none⟩,⟨PyData.keyHash P (ofString "__annotations__"),(.str (ofString "__annotations__") 170),(.ref 6)⟩,⟨PyData.keyHash P (ofString "__builtins__"),(.str (ofString "__builtins__") 171),(.ref 4)⟩,⟨PyData.keyHash P (ofString "__file__"),(.str (ofString "__file__") 173),(.str (ofString "/claim/cut.py") 172)⟩,⟨PyData.keyHash P (ofString "__cached__"),(.str (ofString "__cached__") 174),.none⟩,⟨PyData.keyHash P (ofString "_wall"),(.str (ofString "_wall") 193),(.ref 21)⟩,⟨PyData.keyHash P (ofString "_netrclex"),(.str (ofString "_netrclex") 253),(.ref 59)⟩].toArray 11),[].toArray⟩
noncomputable def h0_12 (P:Params):Obj:=⟨.none,none,(.fields [(.int (1) 0),(.int (0) 0),(.ref 20),(.int (5) 0),(.int (0) 0),(.ref 27)].toArray),[].toArray⟩
noncomputable def h0_16 (P:Params):Obj:=⟨.none,none,(.fields [].toArray),[].toArray⟩
noncomputable def h0_19 (P:Params):Obj:=⟨.none,none,(.func { name:=(ofString "_wall"),qualname:=(ofString "_wall"),params:=f0_args,body:=.stmts f0_body,scope:=f0_scope,globals:=0,closure:=[],defaults:=.none,kwdefaults:=.none,doc:=.none,pyModule:=.none,annotations:=none,code:=.none,closureTuple:=.none,builtins:=0 }),[].toArray⟩
noncomputable def h0_26 (P:Params):Obj:=⟨.none,none,(.fields [(.int (7) 0),(.int (4) 0),(.ref 34),(.int (13) 0),(.int (4) 0),(.ref 41),(.int (19) 0),(.int (4) 0),(.ref 48),(.int (46) 0),(.int (4) 0),(.ref 55)].toArray),[].toArray⟩
noncomputable def h0_30 (P:Params):Obj:=⟨.none,none,(.fields [].toArray),[].toArray⟩
noncomputable def h0_33 (P:Params):Obj:=⟨.none,none,(.func { name:=(ofString "__init__"),qualname:=(ofString "_netrclex.__init__"),params:=f2m0_args,body:=.stmts f2m0_body,scope:=f2m0_scope,globals:=0,closure:=[],defaults:=.none,kwdefaults:=.none,doc:=.none,pyModule:=.none,annotations:=none,code:=.none,closureTuple:=.none,builtins:=0 }),[].toArray⟩
noncomputable def h0_37 (P:Params):Obj:=⟨.none,none,(.fields [].toArray),[].toArray⟩
noncomputable def h0_40 (P:Params):Obj:=⟨.none,none,(.func { name:=(ofString "_read_char"),qualname:=(ofString "_netrclex._read_char"),params:=f2m1_args,body:=.stmts f2m1_body,scope:=f2m1_scope,globals:=0,closure:=[],defaults:=.none,kwdefaults:=.none,doc:=.none,pyModule:=.none,annotations:=none,code:=.none,closureTuple:=.none,builtins:=0 }),[].toArray⟩
noncomputable def h0_44 (P:Params):Obj:=⟨.none,none,(.fields [].toArray),[].toArray⟩
noncomputable def h0_47 (P:Params):Obj:=⟨.none,none,(.func { name:=(ofString "get_token"),qualname:=(ofString "_netrclex.get_token"),params:=f2m2_args,body:=.stmts f2m2_body,scope:=f2m2_scope,globals:=0,closure:=[],defaults:=.none,kwdefaults:=.none,doc:=.none,pyModule:=.none,annotations:=none,code:=.none,closureTuple:=.none,builtins:=0 }),[].toArray⟩
noncomputable def h0_51 (P:Params):Obj:=⟨.none,none,(.fields [].toArray),[].toArray⟩
noncomputable def h0_54 (P:Params):Obj:=⟨.none,none,(.func { name:=(ofString "push_token"),qualname:=(ofString "_netrclex.push_token"),params:=f2m3_args,body:=.stmts f2m3_body,scope:=f2m3_scope,globals:=0,closure:=[],defaults:=.none,kwdefaults:=.none,doc:=.none,pyModule:=.none,annotations:=none,code:=.none,closureTuple:=.none,builtins:=0 }),[].toArray⟩
noncomputable def hT0 (P:Params):BT:=(.node (boot_o_0 P) (.node (boot_o_1 P) (.node (h0_3 P) (.node (boot_o_7 P) (.node (o15 P) (.node (o31 P) (.node (o63 P) .nil .nil) .nil) (.node (h0_47 P) .nil .nil)) (.node (o23 P) (.node (o39 P) .nil .nil) (.node (o55 P) .nil .nil))) (.node (o11 P) (.node (h0_19 P) (.node (o35 P) .nil .nil) (.node (h0_51 P) .nil .nil)) (.node (o27 P) (.node (o43 P) .nil .nil) (.node (o59 P) .nil .nil)))) (.node (boot_o_5 P) (.node (boot_o_9 P) (.node (o17 P) (.node (h0_33 P) .nil .nil) (.node (o49 P) .nil .nil)) (.node (o25 P) (.node (o41 P) .nil .nil) (.node (o57 P) .nil .nil))) (.node (o13 P) (.node (o21 P) (.node (h0_37 P) .nil .nil) (.node (o53 P) .nil .nil)) (.node (o29 P) (.node (o45 P) .nil .nil) (.node (o61 P) .nil .nil))))) (.node (boot_o_2 P) (.node (boot_o_4 P) (.node (boot_o_8 P) (.node (h0_16 P) (.node (o32 P) .nil .nil) (.node (o48 P) .nil .nil)) (.node (o24 P) (.node (h0_40 P) .nil .nil) (.node (o56 P) .nil .nil))) (.node (h0_12 P) (.node (o20 P) (.node (o36 P) .nil .nil) (.node (o52 P) .nil .nil)) (.node (o28 P) (.node (h0_44 P) .nil .nil) (.node (o60 P) .nil .nil)))) (.node (boot_o_6 P) (.node (boot_o_10 P) (.node (o18 P) (.node (o34 P) .nil .nil) (.node (o50 P) .nil .nil)) (.node (h0_26 P) (.node (o42 P) .nil .nil) (.node (o58 P) .nil .nil))) (.node (o14 P) (.node (o22 P) (.node (o38 P) .nil .nil) (.node (h0_54 P) .nil .nil)) (.node (h0_30 P) (.node (o46 P) .nil .nil) (.node (o62 P) .nil .nil))))))
noncomputable def hS0 (w:World)(os:OsState):SharedT:=⟨hT0 w.params,64,hLife w.params,#[],boot_drawn,256,os⟩
noncomputable def hL0:List Stmt:=(Challenge.pw_uc0057_01.main.body.drop 0).take 4
noncomputable def h1_3 (P:Params):Obj:=⟨(.type "dict"),none,(.dict [⟨PyData.keyHash P (ofString "__name__"),(.str (ofString "__name__") 165),(.str (ofString "cpy313.stringprep") 254)⟩,⟨PyData.keyHash P (ofString "__doc__"),(.str (ofString "__doc__") 166),.none⟩,⟨PyData.keyHash P (ofString "__package__"),(.str (ofString "__package__") 167),.none⟩,⟨PyData.keyHash P (ofString "__loader__"),(.str (ofString "__loader__") 168),(.builtin "__main__.__loader__#opaque")⟩,⟨PyData.keyHash P (ofString "__spec__"),(.str (ofString "__spec__") 169),.none⟩,⟨PyData.keyHash P (ofString "__annotations__"),(.str (ofString "__annotations__") 170),(.ref 6)⟩,⟨PyData.keyHash P (ofString "__builtins__"),(.str (ofString "__builtins__") 171),(.ref 4)⟩,⟨PyData.keyHash P (ofString "__file__"),(.str (ofString "__file__") 173),(.str (ofString "/claim/cut.py") 172)⟩,⟨PyData.keyHash P (ofString "__cached__"),(.str (ofString "__cached__") 174),.none⟩,⟨PyData.keyHash P (ofString "_wall"),(.str (ofString "_wall") 193),(.ref 21)⟩,⟨PyData.keyHash P (ofString "_netrclex"),(.str (ofString "_netrclex") 253),(.ref 59)⟩,⟨PyData.keyHash P (ofString "b1_set"),(.str (ofString "b1_set") 315),(.ref 71)⟩,⟨PyData.keyHash P (ofString "in_table_b1"),(.str (ofString "in_table_b1") 322),(.ref 81)⟩].toArray 13),[].toArray⟩
noncomputable def h1_12 (P:Params):Obj:=⟨.none,none,(.fields [(.int (1) 0),(.int (0) 0),(.ref 20),(.int (5) 0),(.int (0) 0),(.ref 27),(.int (50) 0),(.int (0) 0),(.ref 80)].toArray),[].toArray⟩
noncomputable def h1_76 (P:Params):Obj:=⟨.none,none,(.fields [].toArray),[].toArray⟩
noncomputable def h1_79 (P:Params):Obj:=⟨.none,none,(.func { name:=(ofString "in_table_b1"),qualname:=(ofString "in_table_b1"),params:=f5_args,body:=.stmts f5_body,scope:=f5_scope,globals:=0,closure:=[],defaults:=.none,kwdefaults:=.none,doc:=.none,pyModule:=.none,annotations:=none,code:=.none,closureTuple:=.none,builtins:=0 }),[].toArray⟩
noncomputable def hT1 (P:Params):BT:=(.node (boot_o_0 P) (.node (boot_o_1 P) (.node (h1_3 P) (.node (boot_o_7 P) (.node (o15 P) (.node (o31 P) (.node (o63 P) .nil .nil) .nil) (.node (h0_47 P) (.node (h1_79 P) .nil .nil) .nil)) (.node (o23 P) (.node (o39 P) (.node (o71 P) .nil .nil) .nil) (.node (o55 P) .nil .nil))) (.node (o11 P) (.node (h0_19 P) (.node (o35 P) (.node (o67 P) .nil .nil) .nil) (.node (h0_51 P) .nil .nil)) (.node (o27 P) (.node (o43 P) (.node (o75 P) .nil .nil) .nil) (.node (o59 P) .nil .nil)))) (.node (boot_o_5 P) (.node (boot_o_9 P) (.node (o17 P) (.node (h0_33 P) (.node (o65 P) .nil .nil) .nil) (.node (o49 P) (.node (o81 P) .nil .nil) .nil)) (.node (o25 P) (.node (o41 P) (.node (o73 P) .nil .nil) .nil) (.node (o57 P) .nil .nil))) (.node (o13 P) (.node (o21 P) (.node (h0_37 P) (.node (o69 P) .nil .nil) .nil) (.node (o53 P) .nil .nil)) (.node (o29 P) (.node (o45 P) (.node (o77 P) .nil .nil) .nil) (.node (o61 P) .nil .nil))))) (.node (boot_o_2 P) (.node (boot_o_4 P) (.node (boot_o_8 P) (.node (h0_16 P) (.node (o32 P) (.node (o64 P) .nil .nil) .nil) (.node (o48 P) (.node (o80 P) .nil .nil) .nil)) (.node (o24 P) (.node (h0_40 P) (.node (o72 P) .nil .nil) .nil) (.node (o56 P) .nil .nil))) (.node (h1_12 P) (.node (o20 P) (.node (o36 P) (.node (o68 P) .nil .nil) .nil) (.node (o52 P) .nil .nil)) (.node (o28 P) (.node (h0_44 P) (.node (h1_76 P) .nil .nil) .nil) (.node (o60 P) .nil .nil)))) (.node (boot_o_6 P) (.node (boot_o_10 P) (.node (o18 P) (.node (o34 P) (.node (o66 P) .nil .nil) .nil) (.node (o50 P) .nil .nil)) (.node (h0_26 P) (.node (o42 P) (.node (o74 P) .nil .nil) .nil) (.node (o58 P) .nil .nil))) (.node (o14 P) (.node (o22 P) (.node (o38 P) (.node (o70 P) .nil .nil) .nil) (.node (h0_54 P) .nil .nil)) (.node (h0_30 P) (.node (o46 P) (.node (o78 P) .nil .nil) .nil) (.node (o62 P) .nil .nil))))))
noncomputable def hS1 (w:World)(os:OsState):SharedT:=⟨hT1 w.params,82,hLife w.params,#[],boot_drawn,323,os⟩
noncomputable def hL1:List Stmt:=(Challenge.pw_uc0057_01.main.body.drop 4).take 2
noncomputable def h2_3 (P:Params):Obj:=⟨(.type "dict"),none,(.dict [⟨PyData.keyHash P (ofString "__name__"),(.str (ofString "__name__") 165),(.str (ofString "cpy313.stringprep") 254)⟩,⟨PyData.keyHash P (ofString "__doc__"),(.str (ofString "__doc__") 166),.none⟩,⟨PyData.keyHash P (ofString "__package__"),(.str (ofString "__package__") 167),.none⟩,⟨PyData.keyHash P (ofString "__loader__"),(.str (ofString "__loader__") 168),(.builtin "__main__.__loader__#opaque")⟩,⟨PyData.keyHash P (ofString "__spec__"),(.str (ofString "__spec__") 169),.none⟩,⟨PyData.keyHash P (ofString "__annotations__"),(.str (ofString "__annotations__") 170),(.ref 6)⟩,⟨PyData.keyHash P (ofString "__builtins__"),(.str (ofString "__builtins__") 171),(.ref 4)⟩,⟨PyData.keyHash P (ofString "__file__"),(.str (ofString "__file__") 173),(.str (ofString "/claim/cut.py") 172)⟩,⟨PyData.keyHash P (ofString "__cached__"),(.str (ofString "__cached__") 174),.none⟩,⟨PyData.keyHash P (ofString "_wall"),(.str (ofString "_wall") 193),(.ref 21)⟩,⟨PyData.keyHash P (ofString "_netrclex"),(.str (ofString "_netrclex") 253),(.ref 59)⟩,⟨PyData.keyHash P (ofString "b1_set"),(.str (ofString "b1_set") 315),(.ref 71)⟩,⟨PyData.keyHash P (ofString "in_table_b1"),(.str (ofString "in_table_b1") 322),(.ref 81)⟩,⟨PyData.keyHash P (ofString "b3_exceptions"),(.str (ofString "b3_exceptions") 2273),(.ref 82)⟩].toArray 14),[].toArray⟩
noncomputable def ht83:Obj:=⟨.type "dict",none,.dict (((tabFrom 0 tabKeys tabVals).drop 17).take 17).toArray 17,[].toArray⟩
noncomputable def ht84:Obj:=⟨.type "dict",none,.dict (((tabFrom 0 tabKeys tabVals).drop 34).take 17).toArray 17,[].toArray⟩
noncomputable def ht85:Obj:=⟨.type "dict",none,.dict (((tabFrom 0 tabKeys tabVals).drop 51).take 17).toArray 17,[].toArray⟩
noncomputable def ht86:Obj:=⟨.type "dict",none,.dict (((tabFrom 0 tabKeys tabVals).drop 68).take 17).toArray 17,[].toArray⟩
noncomputable def ht87:Obj:=⟨.type "dict",none,.dict (((tabFrom 0 tabKeys tabVals).drop 85).take 17).toArray 17,[].toArray⟩
noncomputable def ht88:Obj:=⟨.type "dict",none,.dict (((tabFrom 0 tabKeys tabVals).drop 102).take 17).toArray 17,[].toArray⟩
noncomputable def ht89:Obj:=⟨.type "dict",none,.dict (((tabFrom 0 tabKeys tabVals).drop 119).take 17).toArray 17,[].toArray⟩
noncomputable def ht90:Obj:=⟨.type "dict",none,.dict (((tabFrom 0 tabKeys tabVals).drop 136).take 17).toArray 17,[].toArray⟩
noncomputable def ht91:Obj:=⟨.type "dict",none,.dict (((tabFrom 0 tabKeys tabVals).drop 153).take 17).toArray 17,[].toArray⟩
noncomputable def ht92:Obj:=⟨.type "dict",none,.dict (((tabFrom 0 tabKeys tabVals).drop 170).take 17).toArray 17,[].toArray⟩
noncomputable def ht93:Obj:=⟨.type "dict",none,.dict (((tabFrom 0 tabKeys tabVals).drop 187).take 17).toArray 17,[].toArray⟩
noncomputable def ht94:Obj:=⟨.type "dict",none,.dict (((tabFrom 0 tabKeys tabVals).drop 204).take 17).toArray 17,[].toArray⟩
noncomputable def ht95:Obj:=⟨.type "dict",none,.dict (((tabFrom 0 tabKeys tabVals).drop 221).take 17).toArray 17,[].toArray⟩
noncomputable def ht96:Obj:=⟨.type "dict",none,.dict (((tabFrom 0 tabKeys tabVals).drop 238).take 17).toArray 17,[].toArray⟩
noncomputable def ht97:Obj:=⟨.type "dict",none,.dict (((tabFrom 0 tabKeys tabVals).drop 255).take 17).toArray 17,[].toArray⟩
noncomputable def ht98:Obj:=⟨.type "dict",none,.dict (((tabFrom 0 tabKeys tabVals).drop 272).take 17).toArray 17,[].toArray⟩
noncomputable def ht99:Obj:=⟨.type "dict",none,.dict (((tabFrom 0 tabKeys tabVals).drop 289).take 17).toArray 17,[].toArray⟩
noncomputable def ht100:Obj:=⟨.type "dict",none,.dict (((tabFrom 0 tabKeys tabVals).drop 306).take 17).toArray 17,[].toArray⟩
noncomputable def ht101:Obj:=⟨.type "dict",none,.dict (((tabFrom 0 tabKeys tabVals).drop 323).take 17).toArray 17,[].toArray⟩
noncomputable def ht102:Obj:=⟨.type "dict",none,.dict (((tabFrom 0 tabKeys tabVals).drop 340).take 17).toArray 17,[].toArray⟩
noncomputable def ht103:Obj:=⟨.type "dict",none,.dict (((tabFrom 0 tabKeys tabVals).drop 357).take 17).toArray 17,[].toArray⟩
noncomputable def ht104:Obj:=⟨.type "dict",none,.dict (((tabFrom 0 tabKeys tabVals).drop 374).take 17).toArray 17,[].toArray⟩
noncomputable def ht105:Obj:=⟨.type "dict",none,.dict (((tabFrom 0 tabKeys tabVals).drop 391).take 17).toArray 17,[].toArray⟩
noncomputable def ht106:Obj:=⟨.type "dict",none,.dict (((tabFrom 0 tabKeys tabVals).drop 408).take 17).toArray 17,[].toArray⟩
noncomputable def ht107:Obj:=⟨.type "dict",none,.dict (((tabFrom 0 tabKeys tabVals).drop 425).take 17).toArray 17,[].toArray⟩
noncomputable def ht108:Obj:=⟨.type "dict",none,.dict (((tabFrom 0 tabKeys tabVals).drop 442).take 17).toArray 17,[].toArray⟩
noncomputable def ht109:Obj:=⟨.type "dict",none,.dict (((tabFrom 0 tabKeys tabVals).drop 459).take 17).toArray 17,[].toArray⟩
noncomputable def ht110:Obj:=⟨.type "dict",none,.dict (((tabFrom 0 tabKeys tabVals).drop 476).take 17).toArray 17,[].toArray⟩
noncomputable def ht111:Obj:=⟨.type "dict",none,.dict (((tabFrom 0 tabKeys tabVals).drop 493).take 17).toArray 17,[].toArray⟩
noncomputable def ht112:Obj:=⟨.type "dict",none,.dict (((tabFrom 0 tabKeys tabVals).drop 510).take 17).toArray 17,[].toArray⟩
noncomputable def ht113:Obj:=⟨.type "dict",none,.dict (((tabFrom 0 tabKeys tabVals).drop 527).take 17).toArray 17,[].toArray⟩
noncomputable def ht114:Obj:=⟨.type "dict",none,.dict (((tabFrom 0 tabKeys tabVals).drop 544).take 17).toArray 17,[].toArray⟩
noncomputable def ht115:Obj:=⟨.type "dict",none,.dict (((tabFrom 0 tabKeys tabVals).drop 561).take 17).toArray 17,[].toArray⟩
noncomputable def ht116:Obj:=⟨.type "dict",none,.dict (((tabFrom 0 tabKeys tabVals).drop 578).take 17).toArray 17,[].toArray⟩
noncomputable def ht117:Obj:=⟨.type "dict",none,.dict (((tabFrom 0 tabKeys tabVals).drop 595).take 17).toArray 17,[].toArray⟩
noncomputable def ht118:Obj:=⟨.type "dict",none,.dict (((tabFrom 0 tabKeys tabVals).drop 612).take 17).toArray 17,[].toArray⟩
noncomputable def ht119:Obj:=⟨.type "dict",none,.dict (((tabFrom 0 tabKeys tabVals).drop 629).take 17).toArray 17,[].toArray⟩
noncomputable def ht120:Obj:=⟨.type "dict",none,.dict (((tabFrom 0 tabKeys tabVals).drop 646).take 4).toArray 4,[].toArray⟩
noncomputable def hT2 (P:Params):BT:=(.node (boot_o_0 P) (.node (boot_o_1 P) (.node (h2_3 P) (.node (boot_o_7 P) (.node (o15 P) (.node (o31 P) (.node (o63 P) .nil .nil) (.node ht95 .nil .nil)) (.node (h0_47 P) (.node (h1_79 P) .nil .nil) (.node ht111 .nil .nil))) (.node (o23 P) (.node (o39 P) (.node (o71 P) .nil .nil) (.node ht103 .nil .nil)) (.node (o55 P) (.node ht87 .nil .nil) (.node ht119 .nil .nil)))) (.node (o11 P) (.node (h0_19 P) (.node (o35 P) (.node (o67 P) .nil .nil) (.node ht99 .nil .nil)) (.node (h0_51 P) (.node ht83 .nil .nil) (.node ht115 .nil .nil))) (.node (o27 P) (.node (o43 P) (.node (o75 P) .nil .nil) (.node ht107 .nil .nil)) (.node (o59 P) (.node ht91 .nil .nil) .nil)))) (.node (boot_o_5 P) (.node (boot_o_9 P) (.node (o17 P) (.node (h0_33 P) (.node (o65 P) .nil .nil) (.node ht97 .nil .nil)) (.node (o49 P) (.node (o81 P) .nil .nil) (.node ht113 .nil .nil))) (.node (o25 P) (.node (o41 P) (.node (o73 P) .nil .nil) (.node ht105 .nil .nil)) (.node (o57 P) (.node ht89 .nil .nil) .nil))) (.node (o13 P) (.node (o21 P) (.node (h0_37 P) (.node (o69 P) .nil .nil) (.node ht101 .nil .nil)) (.node (o53 P) (.node ht85 .nil .nil) (.node ht117 .nil .nil))) (.node (o29 P) (.node (o45 P) (.node (o77 P) .nil .nil) (.node ht109 .nil .nil)) (.node (o61 P) (.node ht93 .nil .nil) .nil))))) (.node (boot_o_2 P) (.node (boot_o_4 P) (.node (boot_o_8 P) (.node (h0_16 P) (.node (o32 P) (.node (o64 P) .nil .nil) (.node ht96 .nil .nil)) (.node (o48 P) (.node (o80 P) .nil .nil) (.node ht112 .nil .nil))) (.node (o24 P) (.node (h0_40 P) (.node (o72 P) .nil .nil) (.node ht104 .nil .nil)) (.node (o56 P) (.node ht88 .nil .nil) (.node ht120 .nil .nil)))) (.node (h1_12 P) (.node (o20 P) (.node (o36 P) (.node (o68 P) .nil .nil) (.node ht100 .nil .nil)) (.node (o52 P) (.node ht84 .nil .nil) (.node ht116 .nil .nil))) (.node (o28 P) (.node (h0_44 P) (.node (h1_76 P) .nil .nil) (.node ht108 .nil .nil)) (.node (o60 P) (.node ht92 .nil .nil) .nil)))) (.node (boot_o_6 P) (.node (boot_o_10 P) (.node (o18 P) (.node (o34 P) (.node (o66 P) .nil .nil) (.node ht98 .nil .nil)) (.node (o50 P) (.node (o82 P) .nil .nil) (.node ht114 .nil .nil))) (.node (h0_26 P) (.node (o42 P) (.node (o74 P) .nil .nil) (.node ht106 .nil .nil)) (.node (o58 P) (.node ht90 .nil .nil) .nil))) (.node (o14 P) (.node (o22 P) (.node (o38 P) (.node (o70 P) .nil .nil) (.node ht102 .nil .nil)) (.node (h0_54 P) (.node ht86 .nil .nil) (.node ht118 .nil .nil))) (.node (h0_30 P) (.node (o46 P) (.node (o78 P) .nil .nil) (.node ht110 .nil .nil)) (.node (o62 P) (.node ht94 .nil .nil) .nil))))))
noncomputable def hS2 (w:World)(os:OsState):SharedT:=⟨hT2 w.params,121,hLife w.params,#[],boot_drawn,2274,os⟩
noncomputable def hTd (P:Params):BT:=(.node (boot_o_0 P) (.node (boot_o_1 P) (.node (h1_3 P) (.node (boot_o_7 P) (.node (o15 P) (.node (o31 P) (.node (o63 P) .nil .nil) (.node ht95 .nil .nil)) (.node (h0_47 P) (.node (h1_79 P) .nil .nil) (.node ht111 .nil .nil))) (.node (o23 P) (.node (o39 P) (.node (o71 P) .nil .nil) (.node ht103 .nil .nil)) (.node (o55 P) (.node ht87 .nil .nil) (.node ht119 .nil .nil)))) (.node (o11 P) (.node (h0_19 P) (.node (o35 P) (.node (o67 P) .nil .nil) (.node ht99 .nil .nil)) (.node (h0_51 P) (.node ht83 .nil .nil) (.node ht115 .nil .nil))) (.node (o27 P) (.node (o43 P) (.node (o75 P) .nil .nil) (.node ht107 .nil .nil)) (.node (o59 P) (.node ht91 .nil .nil) .nil)))) (.node (boot_o_5 P) (.node (boot_o_9 P) (.node (o17 P) (.node (h0_33 P) (.node (o65 P) .nil .nil) (.node ht97 .nil .nil)) (.node (o49 P) (.node (o81 P) .nil .nil) (.node ht113 .nil .nil))) (.node (o25 P) (.node (o41 P) (.node (o73 P) .nil .nil) (.node ht105 .nil .nil)) (.node (o57 P) (.node ht89 .nil .nil) .nil))) (.node (o13 P) (.node (o21 P) (.node (h0_37 P) (.node (o69 P) .nil .nil) (.node ht101 .nil .nil)) (.node (o53 P) (.node ht85 .nil .nil) (.node ht117 .nil .nil))) (.node (o29 P) (.node (o45 P) (.node (o77 P) .nil .nil) (.node ht109 .nil .nil)) (.node (o61 P) (.node ht93 .nil .nil) .nil))))) (.node (boot_o_2 P) (.node (boot_o_4 P) (.node (boot_o_8 P) (.node (h0_16 P) (.node (o32 P) (.node (o64 P) .nil .nil) (.node ht96 .nil .nil)) (.node (o48 P) (.node (o80 P) .nil .nil) (.node ht112 .nil .nil))) (.node (o24 P) (.node (h0_40 P) (.node (o72 P) .nil .nil) (.node ht104 .nil .nil)) (.node (o56 P) (.node ht88 .nil .nil) (.node ht120 .nil .nil)))) (.node (h1_12 P) (.node (o20 P) (.node (o36 P) (.node (o68 P) .nil .nil) (.node ht100 .nil .nil)) (.node (o52 P) (.node ht84 .nil .nil) (.node ht116 .nil .nil))) (.node (o28 P) (.node (h0_44 P) (.node (h1_76 P) .nil .nil) (.node ht108 .nil .nil)) (.node (o60 P) (.node ht92 .nil .nil) .nil)))) (.node (boot_o_6 P) (.node (boot_o_10 P) (.node (o18 P) (.node (o34 P) (.node (o66 P) .nil .nil) (.node ht98 .nil .nil)) (.node (o50 P) (.node (o82 P) .nil .nil) (.node ht114 .nil .nil))) (.node (h0_26 P) (.node (o42 P) (.node (o74 P) .nil .nil) (.node ht106 .nil .nil)) (.node (o58 P) (.node ht90 .nil .nil) .nil))) (.node (o14 P) (.node (o22 P) (.node (o38 P) (.node (o70 P) .nil .nil) (.node ht102 .nil .nil)) (.node (h0_54 P) (.node ht86 .nil .nil) (.node ht118 .nil .nil))) (.node (h0_30 P) (.node (o46 P) (.node (o78 P) .nil .nil) (.node ht110 .nil .nil)) (.node (o62 P) (.node ht94 .nil .nil) .nil))))))
noncomputable def tabTg:List Expr:=match tabS with| .Assign t _ _=>t|_=>[]
noncomputable def tabP:Pos:=match tabS with| .Assign _ (.Dict _ _ p) _=>p|_=>⟨0,0,0,0⟩
noncomputable def tabP0:Pos:=match tabS with| .Assign _ _ p=>p|_=>⟨0,0,0,0⟩
noncomputable def hL2:List Stmt:=(Challenge.pw_uc0057_01.main.body.drop 6).take 1
noncomputable def h3_12 (P:Params):Obj:=⟨.none,none,(.fields [(.int (1) 0),(.int (0) 0),(.ref 20),(.int (5) 0),(.int (0) 0),(.ref 27),(.int (50) 0),(.int (0) 0),(.ref 80),(.int (53) 0),(.int (0) 0),(.ref 126),(.int (59) 0),(.int (0) 0),(.ref 133),(.int (107) 0),(.int (0) 0),(.ref 199),(.int (113) 0),(.int (0) 0),(.ref 206),(.int (152) 0),(.int (0) 0),(.ref 213),(.int (157) 0),(.int (0) 0),(.ref 218),(.int (176) 0),(.int (0) 0),(.ref 223),(.int (178) 0),(.int (0) 0),(.ref 228),(.int (180) 0),(.int (0) 0),(.ref 233),(.int (182) 0),(.int (0) 0),(.ref 238),(.int (189) 0),(.int (0) 0),(.ref 243)].toArray),[].toArray⟩
noncomputable def h3_122 (P:Params):Obj:=⟨.none,none,(.fields [].toArray),[].toArray⟩
noncomputable def h3_125 (P:Params):Obj:=⟨.none,none,(.func { name:=(ofString "map_table_b3"),qualname:=(ofString "map_table_b3"),params:=f7_args,body:=.stmts f7_body,scope:=f7_scope,globals:=0,closure:=[],defaults:=.none,kwdefaults:=.none,doc:=.none,pyModule:=.none,annotations:=none,code:=.none,closureTuple:=.none,builtins:=0 }),[].toArray⟩
noncomputable def h3_132 (P:Params):Obj:=⟨.none,none,(.fields [(.int (62) 0),(.int (4) 0),(.ref 143),(.int (85) 0),(.int (4) 0),(.ref 150),(.int (89) 0),(.int (4) 0),(.ref 157),(.int (92) 0),(.int (4) 0),(.ref 164),(.int (95) 0),(.int (4) 0),(.ref 171),(.int (98) 0),(.int (4) 0),(.ref 178),(.int (101) 0),(.int (4) 0),(.ref 185)].toArray),[].toArray⟩
noncomputable def h3_139 (P:Params):Obj:=⟨.none,none,(.fields [].toArray),[].toArray⟩
noncomputable def h3_142 (P:Params):Obj:=⟨.none,none,(.func { name:=(ofString "__init__"),qualname:=(ofString "Whitespace.__init__"),params:=f9m1_args,body:=.stmts f9m1_body,scope:=f9m1_scope,globals:=0,closure:=[],defaults:=.none,kwdefaults:=.none,doc:=.none,pyModule:=.none,annotations:=none,code:=.none,closureTuple:=.none,builtins:=0 }),[].toArray⟩
noncomputable def h3_146 (P:Params):Obj:=⟨.none,none,(.fields [].toArray),[].toArray⟩
noncomputable def h3_149 (P:Params):Obj:=⟨.none,none,(.func { name:=(ofString "longest_run_of_spaces"),qualname:=(ofString "Whitespace.longest_run_of_spaces"),params:=f9m2_args,body:=.stmts f9m2_body,scope:=f9m2_scope,globals:=0,closure:=[],defaults:=.none,kwdefaults:=.none,doc:=.none,pyModule:=.none,annotations:=none,code:=.none,closureTuple:=.none,builtins:=0 }),[].toArray⟩
noncomputable def h3_153 (P:Params):Obj:=⟨.none,none,(.fields [].toArray),[].toArray⟩
noncomputable def h3_156 (P:Params):Obj:=⟨.none,none,(.func { name:=(ofString "indent_level"),qualname:=(ofString "Whitespace.indent_level"),params:=f9m3_args,body:=.stmts f9m3_body,scope:=f9m3_scope,globals:=0,closure:=[],defaults:=.none,kwdefaults:=.none,doc:=.none,pyModule:=.none,annotations:=none,code:=.none,closureTuple:=.none,builtins:=0 }),[].toArray⟩
noncomputable def h3_160 (P:Params):Obj:=⟨.none,none,(.fields [].toArray),[].toArray⟩
noncomputable def h3_163 (P:Params):Obj:=⟨.none,none,(.func { name:=(ofString "equal"),qualname:=(ofString "Whitespace.equal"),params:=f9m4_args,body:=.stmts f9m4_body,scope:=f9m4_scope,globals:=0,closure:=[],defaults:=.none,kwdefaults:=.none,doc:=.none,pyModule:=.none,annotations:=none,code:=.none,closureTuple:=.none,builtins:=0 }),[].toArray⟩
noncomputable def h3_167 (P:Params):Obj:=⟨.none,none,(.fields [].toArray),[].toArray⟩
noncomputable def h3_170 (P:Params):Obj:=⟨.none,none,(.func { name:=(ofString "not_equal_witness"),qualname:=(ofString "Whitespace.not_equal_witness"),params:=f9m5_args,body:=.stmts f9m5_body,scope:=f9m5_scope,globals:=0,closure:=[],defaults:=.none,kwdefaults:=.none,doc:=.none,pyModule:=.none,annotations:=none,code:=.none,closureTuple:=.none,builtins:=0 }),[].toArray⟩
noncomputable def h3_174 (P:Params):Obj:=⟨.none,none,(.fields [].toArray),[].toArray⟩
noncomputable def h3_177 (P:Params):Obj:=⟨.none,none,(.func { name:=(ofString "less"),qualname:=(ofString "Whitespace.less"),params:=f9m6_args,body:=.stmts f9m6_body,scope:=f9m6_scope,globals:=0,closure:=[],defaults:=.none,kwdefaults:=.none,doc:=.none,pyModule:=.none,annotations:=none,code:=.none,closureTuple:=.none,builtins:=0 }),[].toArray⟩
noncomputable def h3_181 (P:Params):Obj:=⟨.none,none,(.fields [].toArray),[].toArray⟩
noncomputable def h3_184 (P:Params):Obj:=⟨.none,none,(.func { name:=(ofString "not_less_witness"),qualname:=(ofString "Whitespace.not_less_witness"),params:=f9m7_args,body:=.stmts f9m7_body,scope:=f9m7_scope,globals:=0,closure:=[],defaults:=.none,kwdefaults:=.none,doc:=.none,pyModule:=.none,annotations:=none,code:=.none,closureTuple:=.none,builtins:=0 }),[].toArray⟩
noncomputable def h3_195 (P:Params):Obj:=⟨.none,none,(.fields [].toArray),[].toArray⟩
noncomputable def h3_198 (P:Params):Obj:=⟨.none,none,(.func { name:=(ofString "_substitution_cost"),qualname:=(ofString "_substitution_cost"),params:=f14_args,body:=.stmts f14_body,scope:=f14_scope,globals:=0,closure:=[],defaults:=.none,kwdefaults:=.none,doc:=.none,pyModule:=.none,annotations:=none,code:=.none,closureTuple:=.none,builtins:=0 }),[].toArray⟩
noncomputable def h3_202 (P:Params):Obj:=⟨.none,none,(.fields [].toArray),[].toArray⟩
noncomputable def h3_205 (P:Params):Obj:=⟨.none,none,(.func { name:=(ofString "_levenshtein_distance"),qualname:=(ofString "_levenshtein_distance"),params:=f15_args,body:=.stmts f15_body,scope:=f15_scope,globals:=0,closure:=[],defaults:=.none,kwdefaults:=.none,doc:=.none,pyModule:=.none,annotations:=none,code:=.none,closureTuple:=.none,builtins:=0 }),[].toArray⟩
noncomputable def h3_209 (P:Params):Obj:=⟨.none,none,(.fields [].toArray),[].toArray⟩
noncomputable def h3_212 (P:Params):Obj:=⟨.none,none,(.func { name:=(ofString "_law_lexer"),qualname:=(ofString "_law_lexer"),params:=f17_args,body:=.stmts f17_body,scope:=f17_scope,globals:=0,closure:=[],defaults:=.none,kwdefaults:=.none,doc:=.none,pyModule:=.none,annotations:=none,code:=.none,closureTuple:=.none,builtins:=0 }),[].toArray⟩
noncomputable def h3_216 (P:Params):Obj:=⟨.none,none,(.fields [].toArray),[].toArray⟩
noncomputable def h3_217 (P:Params):Obj:=⟨.none,none,(.func { name:=(ofString "_law_spelled"),qualname:=(ofString "_law_spelled"),params:=f18_args,body:=.stmts f18_body,scope:=f18_scope,globals:=0,closure:=[],defaults:=.none,kwdefaults:=.none,doc:=.none,pyModule:=.none,annotations:=none,code:=.none,closureTuple:=.none,builtins:=0 }),[].toArray⟩
noncomputable def h3_221 (P:Params):Obj:=⟨.none,none,(.fields [].toArray),[].toArray⟩
noncomputable def h3_222 (P:Params):Obj:=⟨.none,none,(.func { name:=(ofString "_law_kept"),qualname:=(ofString "_law_kept"),params:=f19_args,body:=.stmts f19_body,scope:=f19_scope,globals:=0,closure:=[],defaults:=.none,kwdefaults:=.none,doc:=.none,pyModule:=.none,annotations:=none,code:=.none,closureTuple:=.none,builtins:=0 }),[].toArray⟩
noncomputable def h3_226 (P:Params):Obj:=⟨.none,none,(.fields [].toArray),[].toArray⟩
noncomputable def h3_227 (P:Params):Obj:=⟨.none,none,(.func { name:=(ofString "_law_small"),qualname:=(ofString "_law_small"),params:=f20_args,body:=.stmts f20_body,scope:=f20_scope,globals:=0,closure:=[],defaults:=.none,kwdefaults:=.none,doc:=.none,pyModule:=.none,annotations:=none,code:=.none,closureTuple:=.none,builtins:=0 }),[].toArray⟩
noncomputable def h3_231 (P:Params):Obj:=⟨.none,none,(.fields [].toArray),[].toArray⟩
noncomputable def h3_232 (P:Params):Obj:=⟨.none,none,(.func { name:=(ofString "_law_lead"),qualname:=(ofString "_law_lead"),params:=f21_args,body:=.stmts f21_body,scope:=f21_scope,globals:=0,closure:=[],defaults:=.none,kwdefaults:=.none,doc:=.none,pyModule:=.none,annotations:=none,code:=.none,closureTuple:=.none,builtins:=0 }),[].toArray⟩
noncomputable def h3_236 (P:Params):Obj:=⟨.none,none,(.fields [].toArray),[].toArray⟩
noncomputable def h3_237 (P:Params):Obj:=⟨.none,none,(.func { name:=(ofString "_law_due"),qualname:=(ofString "_law_due"),params:=f22_args,body:=.stmts f22_body,scope:=f22_scope,globals:=0,closure:=[],defaults:=.none,kwdefaults:=.none,doc:=.none,pyModule:=.none,annotations:=none,code:=.none,closureTuple:=.none,builtins:=0 }),[].toArray⟩
noncomputable def h3_241 (P:Params):Obj:=⟨.none,none,(.fields [].toArray),[].toArray⟩
noncomputable def h3_242 (P:Params):Obj:=⟨.none,none,(.func { name:=(ofString "law"),qualname:=(ofString "law"),params:=f23_args,body:=.stmts f23_body,scope:=f23_scope,globals:=0,closure:=[],defaults:=.none,kwdefaults:=.none,doc:=.none,pyModule:=.none,annotations:=none,code:=.none,closureTuple:=.none,builtins:=0 }),[].toArray⟩
noncomputable def hT3 (P:Params):BT:=(.node (boot_o_0 P) (.node (boot_o_1 P) (.node (o3 P) (.node (boot_o_7 P) (.node (o15 P) (.node (o31 P) (.node (o63 P) (.node (o127 P) .nil .nil) (.node (o191 P) .nil .nil)) (.node ht95 (.node (o159 P) .nil .nil) (.node (o223 P) .nil .nil))) (.node (h0_47 P) (.node (h1_79 P) (.node (o143 P) .nil .nil) (.node (o207 P) .nil .nil)) (.node ht111 (.node (o175 P) .nil .nil) (.node (o239 P) .nil .nil)))) (.node (o23 P) (.node (o39 P) (.node (o71 P) (.node (o135 P) .nil .nil) (.node (o199 P) .nil .nil)) (.node ht103 (.node (h3_167 P) .nil .nil) (.node (h3_231 P) .nil .nil))) (.node (o55 P) (.node ht87 (.node (o151 P) .nil .nil) (.node (o215 P) .nil .nil)) (.node ht119 (.node (o183 P) .nil .nil) .nil)))) (.node (o11 P) (.node (h0_19 P) (.node (o35 P) (.node (o67 P) (.node (o131 P) .nil .nil) (.node (h3_195 P) .nil .nil)) (.node ht99 (.node (h3_163 P) .nil .nil) (.node (h3_227 P) .nil .nil))) (.node (h0_51 P) (.node ht83 (.node (o147 P) .nil .nil) (.node (o211 P) .nil .nil)) (.node ht115 (.node (o179 P) .nil .nil) (.node (o243 P) .nil .nil)))) (.node (o27 P) (.node (o43 P) (.node (o75 P) (.node (h3_139 P) .nil .nil) (.node (o203 P) .nil .nil)) (.node ht107 (.node (o171 P) .nil .nil) (.node (o235 P) .nil .nil))) (.node (o59 P) (.node ht91 (.node (o155 P) .nil .nil) (.node (o219 P) .nil .nil)) (.node (o123 P) (.node (o187 P) .nil .nil) .nil))))) (.node (boot_o_5 P) (.node (boot_o_9 P) (.node (o17 P) (.node (h0_33 P) (.node (o65 P) (.node (o129 P) .nil .nil) (.node (o193 P) .nil .nil)) (.node ht97 (.node (o161 P) .nil .nil) (.node (o225 P) .nil .nil))) (.node (o49 P) (.node (o81 P) (.node (o145 P) .nil .nil) (.node (h3_209 P) .nil .nil)) (.node ht113 (.node (h3_177 P) .nil .nil) (.node (h3_241 P) .nil .nil)))) (.node (o25 P) (.node (o41 P) (.node (o73 P) (.node (o137 P) .nil .nil) (.node (o201 P) .nil .nil)) (.node ht105 (.node (o169 P) .nil .nil) (.node (o233 P) .nil .nil))) (.node (o57 P) (.node ht89 (.node (h3_153 P) .nil .nil) (.node (h3_217 P) .nil .nil)) (.node (o121 P) (.node (o185 P) .nil .nil) .nil)))) (.node (o13 P) (.node (o21 P) (.node (h0_37 P) (.node (o69 P) (.node (o133 P) .nil .nil) (.node (o197 P) .nil .nil)) (.node ht101 (.node (o165 P) .nil .nil) (.node (o229 P) .nil .nil))) (.node (o53 P) (.node ht85 (.node (h3_149 P) .nil .nil) (.node (o213 P) .nil .nil)) (.node ht117 (.node (h3_181 P) .nil .nil) .nil))) (.node (o29 P) (.node (o45 P) (.node (o77 P) (.node (o141 P) .nil .nil) (.node (h3_205 P) .nil .nil)) (.node ht109 (.node (o173 P) .nil .nil) (.node (h3_237 P) .nil .nil))) (.node (o61 P) (.node ht93 (.node (o157 P) .nil .nil) (.node (h3_221 P) .nil .nil)) (.node (h3_125 P) (.node (o189 P) .nil .nil) .nil)))))) (.node (boot_o_2 P) (.node (boot_o_4 P) (.node (boot_o_8 P) (.node (h0_16 P) (.node (o32 P) (.node (o64 P) (.node (o128 P) .nil .nil) (.node (o192 P) .nil .nil)) (.node ht96 (.node (h3_160 P) .nil .nil) (.node (o224 P) .nil .nil))) (.node (o48 P) (.node (o80 P) (.node (o144 P) .nil .nil) (.node (o208 P) .nil .nil)) (.node ht112 (.node (o176 P) .nil .nil) (.node (o240 P) .nil .nil)))) (.node (o24 P) (.node (h0_40 P) (.node (o72 P) (.node (o136 P) .nil .nil) (.node (o200 P) .nil .nil)) (.node ht104 (.node (o168 P) .nil .nil) (.node (h3_232 P) .nil .nil))) (.node (o56 P) (.node ht88 (.node (o152 P) .nil .nil) (.node (h3_216 P) .nil .nil)) (.node ht120 (.node (h3_184 P) .nil .nil) .nil)))) (.node (h3_12 P) (.node (o20 P) (.node (o36 P) (.node (o68 P) (.node (h3_132 P) .nil .nil) (.node (o196 P) .nil .nil)) (.node ht100 (.node (o164 P) .nil .nil) (.node (o228 P) .nil .nil))) (.node (o52 P) (.node ht84 (.node (o148 P) .nil .nil) (.node (h3_212 P) .nil .nil)) (.node ht116 (.node (o180 P) .nil .nil) (.node (o244 P) .nil .nil)))) (.node (o28 P) (.node (h0_44 P) (.node (h1_76 P) (.node (o140 P) .nil .nil) (.node (o204 P) .nil .nil)) (.node ht108 (.node (o172 P) .nil .nil) (.node (h3_236 P) .nil .nil))) (.node (o60 P) (.node ht92 (.node (h3_156 P) .nil .nil) (.node (o220 P) .nil .nil)) (.node (o124 P) (.node (o188 P) .nil .nil) .nil))))) (.node (boot_o_6 P) (.node (boot_o_10 P) (.node (o18 P) (.node (o34 P) (.node (o66 P) (.node (o130 P) .nil .nil) (.node (o194 P) .nil .nil)) (.node ht98 (.node (o162 P) .nil .nil) (.node (h3_226 P) .nil .nil))) (.node (o50 P) (.node (o82 P) (.node (h3_146 P) .nil .nil) (.node (o210 P) .nil .nil)) (.node ht114 (.node (o178 P) .nil .nil) (.node (h3_242 P) .nil .nil)))) (.node (h0_26 P) (.node (o42 P) (.node (o74 P) (.node (o138 P) .nil .nil) (.node (h3_202 P) .nil .nil)) (.node ht106 (.node (h3_170 P) .nil .nil) (.node (o234 P) .nil .nil))) (.node (o58 P) (.node ht90 (.node (o154 P) .nil .nil) (.node (o218 P) .nil .nil)) (.node (h3_122 P) (.node (o186 P) .nil .nil) .nil)))) (.node (o14 P) (.node (o22 P) (.node (o38 P) (.node (o70 P) (.node (o134 P) .nil .nil) (.node (h3_198 P) .nil .nil)) (.node ht102 (.node (o166 P) .nil .nil) (.node (o230 P) .nil .nil))) (.node (h0_54 P) (.node ht86 (.node (o150 P) .nil .nil) (.node (o214 P) .nil .nil)) (.node ht118 (.node (o182 P) .nil .nil) .nil))) (.node (h0_30 P) (.node (o46 P) (.node (o78 P) (.node (h3_142 P) .nil .nil) (.node (o206 P) .nil .nil)) (.node ht110 (.node (h3_174 P) .nil .nil) (.node (o238 P) .nil .nil))) (.node (o62 P) (.node ht94 (.node (o158 P) .nil .nil) (.node (h3_222 P) .nil .nil)) (.node (o126 P) (.node (o190 P) .nil .nil) .nil)))))))
noncomputable def hS3 (w:World)(os:OsState):SharedT:=⟨hT3 w.params,245,hLife w.params,#[],boot_drawn,2461,os⟩
noncomputable def hL3:List Stmt:=(Challenge.pw_uc0057_01.main.body.drop 7).take 17
end Uc
end
section
namespace Uc
/-! exact runs:the tree x,at the top,goes in n steps from the heap h (k tokens drawn,standing at q) to h' with the value a -/
theorem segGo_add {tb:String->Option Builtin}{p:Program}{w:World}{n₀:Nat}{ann:Option Value}{b:Nat}:∀{n m:Nat} {s s' s'':Shared} {t t' t'':Thread},segGo tb p w n₀ ann b n s t=some (s',t')->
  segGo tb p w n₀ ann b m s' t'=some (s'',t'')->segGo tb p w n₀ ann b (n+m) s t=some (s'',t'')
 |0,m,s,s',s'',t,t',t'',h,k=>by
  obtain⟨rfl,rfl⟩:s=s'/\t=t':=by simpa [segGo] using h
  rw[Nat.zero_add];exact k
 |n+1,m,s,s',s'',t,t',t'',h,k=>by
  rw[show n+1+m=n+m+1 by(walk_at "O")]
  unfold segGo at h ⊢
  cases he:endAt b t with
  |some f=>rw[he] at h;cases h
  |none=>
   rw[he] at h
   cases hk:stepOk n₀ ann t with
   |false=>rw[hk] at h;cases h
   |true=>
    rw[hk] at h
    cases hs:step (denote tb) p w s t with
    |halt o s₂=>rw[hs] at h;cases h
    |go s₂ t₂=>rw[hs] at h;exact segGo_add h k
section
variable {w:World}{gens:Array GenState}{drawn:Drawn}{os:OsState}
noncomputable def Ru (w:World)(gens:Array GenState)(drawn:Drawn)(os:OsState){α:Type}(x:Sem α)(h:Heap)(k:Nat)(q:Pos)(n:Nat)(a:α)(h':Heap)(k':Nat)(q':Pos):Prop:=
 ∀(K:α->Sem Fin) (H:Value->Sem Fin) (gd:Bool->Bool) (lv:List Value->List Value),
  segGo treeTable Challenge.pw_uc0057_01 w 11 hAnn 1 n ⟨h,gens,drawn,k,os⟩ ⟨x.wrap K H gd lv,hCode,q,[topFrame hFp]⟩=some (⟨h',gens,drawn,k',os⟩,⟨K a,hCode,q',[topFrame hFp]⟩)
theorem Ru.pure {α:Type}{a:α}{h:Heap}{k:Nat}{q:Pos}:Ru w gens drawn os (.pure a) h k q 0 a h k q:=fun _ _ _ _=>rfl
theorem Ru.pure' {α:Type}{a:α}{h:Heap}{k:Nat}{q:Pos}:Ru w gens drawn os (Pure.pure a) h k q 0 a h k q:=fun _ _ _ _=>rfl
theorem Ru.bind {α β:Type}{x:Sem α}{f:α->Sem β}{a:α}{b:β}{h h1 h2:Heap}{k k1 k2:Nat}{q q1 q2:Pos}{n m:Nat}(r1:Ru w gens drawn os x h k q n a h1 k1 q1)(r2:Ru w gens drawn os (f a) h1 k1 q1 m b h2 k2 q2):Ru w gens drawn os (x>>=f) h k q (n+m) b h2 k2 q2:=fun K H gd lv=>by
 rw[Sem.bind_eq_wrap',Sem.wrap_wrap]
 exact segGo_add (r1 _ _ _ _) (r2 K H gd lv)
theorem Ru.keep {α:Type}{x:Sem α}{vs:List Value}{a:α}{h h1:Heap}{k k1:Nat}{q q1:Pos}{n:Nat}(r:Ru w gens drawn os x h k q n a h1 k1 q1):Ru w gens drawn os (x.keep vs) h k q n a h1 k1 q1:=fun K H gd lv=>by
 rw[Sem.keep_eq_wrap,Sem.wrap_wrap]
 exact r _ _ _ _
theorem Ru.holding {α:Type}{x:Sem α}{vs:List Value}{a:α}{h h1:Heap}{k k1:Nat}{q q1:Pos}{n:Nat}(r:Ru w gens drawn os x h k q n a h1 k1 q1):Ru w gens drawn os (holding vs x) h k q n a h1 k1 q1:=by
 unfold PySem.holding
 split
 ·exact r
 ·exact r.keep
theorem Ru.onRaise {α:Type}{x:Sem α}{f:Value->Sem Unit}{a:α}{h h1:Heap}{k k1:Nat}{q q1:Pos}{n:Nat}(r:Ru w gens drawn os x h k q n a h1 k1 q1):Ru w gens drawn os (x.onRaise f) h k q n a h1 k1 q1:=fun K H gd lv=>by
 rw[Sem.onRaise_eq_wrap,Sem.wrap_wrap]
 exact r _ _ _ _
theorem Ru.rule {t:String}{h:Heap}{k:Nat}{q:Pos}:Ru w gens drawn os (PySem.rule t) h k q 1 () h k q:=fun _ _ _ _=>rfl
theorem Ru.standAt {p:Pos}{h:Heap}{k:Nat}{q:Pos}:Ru w gens drawn os (standAt p) h k q 1 () h k p:=fun _ _ _ _=>rfl
theorem Ru.fresh {h:Heap}{k:Nat}{q:Pos}:Ru w gens drawn os fresh h k q 1 k h (k+1) q:=fun _ _ _ _=>rfl
theorem Ru.alloc {o:Obj}{h:Heap}{k:Nat}{q:Pos}:Ru w gens drawn os (alloc o) h k q 1 h.objs.size (h.push o) k q:=fun _ _ _ _=>rfl
theorem Ru.loadPart {a:Addr}{p:Option Value}{o:Obj}{h:Heap}{k:Nat}{q:Pos}(e:h.get? a=some o):Ru w gens drawn os (loadPart a p) h k q 1 o h k q:=fun K H gd lv=>by
 show(match step _ _ _ _ _ with| .go s' t'=>_| .halt _ _=>none)=_
 simp only[PySem.loadPart,Sem.wrap,step,e]
 rfl
theorem Ru.updatePart {a:Addr}{p:Option Value}{f:Obj->Obj}{o:Obj}{h:Heap}{k:Nat}{q:Pos}(l:Nat.ble 11 a=true)(e:h.get? a=some o):Ru w gens drawn os (updatePart a p f) h k q 1 () (h.update a f) k q:=fun K H gd lv=>by
 have ok:stepOk 11 hAnn (⟨(PySem.updatePart a p f).wrap K H gd lv,hCode,q,[topFrame hFp]⟩:Thread)=true:=by
  show(Thread.calm _&&(Nat.ble 11 a||a==mainNs||a==cStatics||hAnn==some (.ref a)))=true
  rw[l]
  rfl
 unfold segGo
 rw[ok]
 show(match step _ _ _ _ _ with| .go s' t'=>_| .halt _ _=>none)=_
 simp only[PySem.updatePart,Sem.wrap,step,e,Option.isSome_some,if_true]
 rfl
end
end Uc
end
section
namespace Uc
noncomputable def Heap.puts (h:Heap)(a:Addr)(o:Obj):Heap:=h.update a fun _=>o
theorem puts_puts (h:Heap)(a:Addr)(o o':Obj):Heap.puts (Heap.puts h a o) a o'=Heap.puts h a o':=by
 obtain⟨objs,life⟩:=h
 simp only[Heap.puts,Heap.update,Heap.mk.injEq,and_true]
 apply Array.ext_getElem?
 intro i
 simp only[Array.getElem?_modify]
 by_cases h1:a=i
 ·subst h1;simp only[if_true,Option.map_map];rfl
 ·simp only[if_neg h1]
theorem puts_push (h:Heap)(o o':Obj):Heap.puts (h.push o) h.objs.size o'=h.push o':=by
 obtain⟨objs,life⟩:=h
 simp only[Heap.puts,Heap.update,Heap.push,Heap.mk.injEq,and_true]
 apply Array.ext_getElem?
 intro i
 simp only[Array.getElem?_modify,Array.getElem?_push]
 by_cases h1:objs.size=i
 ·subst h1;simp
 ·simp[h1,Ne.symm h1]
theorem puts_push_ne (h:Heap){a:Addr}(o o':Obj)(ha:a≠h.objs.size):Heap.puts (h.push o) a o'=(Heap.puts h a o').push o:=Heap.update_push h a _ o ha
theorem puts_size (h:Heap)(a:Addr)(o:Obj):(Heap.puts h a o).objs.size=h.objs.size:=Heap.size_update h a _
theorem puts_get {h:Heap}{a:Addr}{o o':Obj}(e:h.get? a=some o)(hf:o'.isFreed=false):(Heap.puts h a o').get? a=some o':=Heap.get?_update_self (fun _=>o') e hf
theorem puts_get_ne {h:Heap}{a b:Addr}{o':Obj}(hab:a≠b):(Heap.puts h a o').get? b=h.get? b:=Heap.get?_update_other h _ hab
theorem update_puts {h:Heap}{a:Addr}{f:Obj->Obj}{o o':Obj}(e:h.get? a=some o)(hf:f o=o'):h.update a f=Heap.puts h a o':=by
 obtain⟨e1,_⟩:=Heap.get?_some_iff.mp e
 obtain⟨objs,life⟩:=h
 simp only[Heap.puts,Heap.update,Heap.mk.injEq,and_true] at e1 ⊢
 apply Array.ext_getElem?
 intro i
 simp only[Array.getElem?_modify]
 by_cases h1:a=i
 ·subst h1;simp only[if_true,e1,Option.map_some,hf]
 ·simp only[if_neg h1]
section
variable {w:World}{gens:Array GenState}{drawn:Drawn}{os:OsState}
noncomputable abbrev dObj (es:List DictEntry)(ep:Nat):Obj:=⟨.type "dict",none,.dict es.toArray ep,[].toArray⟩
theorem Ru.dictEntries {a:Addr}{p:Option Value}{es:List DictEntry}{ep:Nat}{h:Heap}{k:Nat}{q:Pos}(e:h.get? a=some (dObj es ep)):Ru w gens drawn os (dictEntries a p) h k q 1 es.toArray h k q:=
 Ru.bind (n:=1) (m:=0) (Ru.loadPart e) Ru.pure
theorem Ru.dictEpoch {a:Addr}{p:Option Value}{es:List DictEntry}{ep:Nat}{h:Heap}{k:Nat}{q:Pos}(e:h.get? a=some (dObj es ep)):Ru w gens drawn os (dictEpoch a p) h k q 1 ep h k q:=
 Ru.bind (n:=1) (m:=0) (Ru.loadPart e) Ru.pure
theorem places_none {es:List DictEntry}{i:Int}(hn:∀e∈es,e.hash≠i):placesWithHash es.toArray.size (fun j=>es.toArray[j]?.map (·.hash)) i=[]:=by
 unfold placesWithHash
 rw[List.filter_eq_nil_iff]
 intro j _
 show ¬ (Option.map (fun x=>x.hash) es.toArray[j]? ==some i)=true
 rw[List.getElem?_toArray]
 cases e:es[j]? with
 |none=>simp
 |some x=>
  have:=hn x (List.mem_of_getElem? e)
  simp only[Option.map_some,beq_iff_eq,Option.some.injEq]
  exact this
theorem Ru.dictFind {a:Addr}{es:List DictEntry}{ep:Nat}{i:Int}{t:Tok}{h:Heap}{k:Nat}{q:Pos}(e:h.get? a=some (dObj es ep))(hn:∀e∈es,e.hash≠i):Ru w gens drawn os (dictFind a (.int i t) i) h k q 1 none h k q:=by
 refine Ru.holding ?_
 refine Ru.bind (n:=1) (m:=0) (Ru.dictEntries e) ?_
 (try dsimp only)
 rw[places_none hn]
 exact Ru.pure
theorem Ru.putKey {a:Addr}{p:Option Value}{es:List DictEntry}{ep:Nat}{x:DictEntry}{h:Heap}{k:Nat}{q:Pos}(l:Nat.ble 11 a=true)(e:h.get? a=some (dObj es ep))(hl:es.length<100000):
  Ru w gens drawn os (updateDictKeys a (·.push x) p) h k q 3 () (Heap.puts h a (dObj (es++[x]) (ep+1))) k q:=by
 have hf:(Obj.mapDictKeys (·.push x)) (dObj es ep)=dObj (es++[x]) (ep+1):=by
  show(⟨_,_,.dict (es.toArray.push x) (ep+1),_⟩:Obj)=_
  rw[List.push_toArray]
 refine Ru.bind (n:=1) (m:=2) (Ru.loadPart e) ?_
 refine Ru.bind (n:=1) (m:=1) (Ru.updatePart l e) ?_
 rw[update_puts e hf]
 refine Ru.bind (n:=1) (m:=0) (Ru.loadPart (puts_get e rfl)) ?_
 have:(dObj (es++[x]) (ep+1)).data.pastItsLine=none:=by
  show(if (es++[x]).toArray.size>sizeLine+1 then some "dict:memory" else none)=none
  rw[if_neg]
  rw[List.size_toArray,List.length_append,List.length_singleton]
  unfold sizeLine
  (walk_at "O")
 rw[this]
 exact Ru.pure
theorem ru_hash {i:Int}{t:Tok}{h:Heap}{k:Nat}{q:Pos}(h0:0<=i)(h1:i<2^32):Ru w gens drawn os (pyHash (.int i t)) h k q 5 i h (k+1) q:=by
 have e:pyHashByItsType.reduced i=(Pure.pure i:Sem Int):=by
  unfold pyHashByItsType.reduced
  rw[if_pos (by simp only[Bool.and_eq_true,decide_eq_true_eq];(walk_at "O")),if_neg (by simp only[beq_iff_eq];(walk_at "O"))]
 have key:∀(w:World) (K:Int->Sem Fin) (H:Value->Sem Fin) (gd:Bool->Bool) (lv:List Value->List Value),
  PySem.W.Fast.tw3277212676724774461 PySem.W.Fast.tw14364793385576792824 Challenge.pw_uc0057_01 w 11 hAnn 1 5 ⟨h,gens,drawn,k,os⟩ ⟨(PySem.W.Fast.tw10540108854288196387 (.int i t)).wrap K H gd lv,hCode,q,[topFrame hFp]⟩=some (⟨h,gens,drawn,k+1,os⟩,⟨(pyHashByItsType.reduced (rawHash i)).wrap K H gd lv,hCode,q,[topFrame hFp]⟩):=byRow2 "special-get-raises" (fun w K H gd lv=>by kernel_rfl) (fun w K H gd lv=>by kernel_rfl)
 intro K H gd lv
 have:=key w K H gd lv
 have hr:rawHash i=i:=by
  unfold rawHash
  (try dsimp only)
  have:((i.natAbs:Int)%((2^61-1:Nat):Int))=i:=by(walk_at "O")
  have hneg:¬ i<0:=by(walk_at "O")
  have h1:¬ (i== -1)=true:=by rw[beq_iff_eq];(walk_at "O")
  rw[this]
  simp only[if_neg hneg,if_neg h1]
 rw[<-PySem.W.Fast.te3277212676724774461, <-PySem.W.Fast.te14364793385576792824, <-PySem.W.Fast.te10540108854288196387,hr,e] at this
 exact this
theorem Ru.dictSet {a:Addr}{es:List DictEntry}{ep:Nat}{i:Int}{t:Tok}{v:Value}{h:Heap}{k:Nat}{q:Pos}(h0:0<=i)(h1:i<2^32)(l:Nat.ble 11 a=true)(e:h.get? a=some (dObj es ep))(hn:∀e∈es,e.hash≠i)(hl:es.length<100000):
  Ru w gens drawn os (dictSet a (.int i t) v) h k q 10 () (Heap.puts h a (dObj (es++[⟨i,.int i t,v⟩]) (ep+1))) (k+1) q:=by
 refine Ru.holding ?_
 refine Ru.bind (n:=5) (m:=5) (ru_hash h0 h1) ?_
 refine Ru.holding ?_
 refine Ru.bind (n:=1) (m:=4) (Ru.dictFind e hn) ?_
 refine Ru.bind (n:=1) (m:=3) Ru.rule ?_
 exact Ru.putKey l e hl
theorem Ru.dictPut {a:Addr}{es:List DictEntry}{ep:Nat}{i:Int}{t:Tok}{v:Value}{h:Heap}{k:Nat}{q:Pos}(l:Nat.ble 11 a=true)(e:h.get? a=some (dObj es ep))(hn:∀e∈es,e.hash≠i)(hl:es.length<100000):
  Ru w gens drawn os (dictPut a i (.int i t) v) h k q 4 () (Heap.puts h a (dObj (es++[⟨i,.int i t,v⟩]) (ep+1))) k q:=by
 refine Ru.bind (n:=1) (m:=3) (Ru.dictFind e hn) ?_
 exact Ru.putKey l e hl
end
end Uc
end
section
namespace Uc
section
variable {w:World}{gens:Array GenState}{drawn:Drawn}{os:OsState}
theorem ru_forIn {β:Type}{q:Pos}{n:Nat}{body:β->PUnit->Sem (ForInStep PUnit)}(l:List β):∀(hs:Nat->Heap) (ks:Nat->Nat) (N:Nat),
  (∀j x,l[j]? =some x->Ru w gens drawn os (body x ⟨⟩) (hs j) (ks j) q n (.yield ⟨⟩) (hs (j+1)) (ks (j+1)) q)->N=l.length*n->Ru w gens drawn os (forIn l ⟨⟩ body) (hs 0) (ks 0) q N ⟨⟩ (hs l.length) (ks l.length) q:=by
 induction l with
 |nil=>
  intro hs ks N _ hN
  obtain rfl:N=0:=by rw[hN,List.length_nil,Nat.zero_mul]
  exact Ru.pure'
 |cons x l ih=>
  intro hs ks N h hN
  rw[List.forIn_cons]
  obtain rfl:N=n+l.length*n:=by rw[hN,List.length_cons,Nat.succ_mul,Nat.add_comm]
  refine Ru.bind (h 0 x rfl) ?_
  exact ih (fun j=>hs (j+1)) (fun j=>ks (j+1)) _ (fun j x hx=>h (j+1) x hx) rfl
structure IsPair (q:Pos) (p:Sem Value×Sem Value) (x:Int×Str):Prop where
 key:∀{w gens drawn os h k},Ru w gens drawn os p.1 h k q 1 (.int x.1 k) h (k+1) q
 val:∀{w gens drawn os h k},Ru w gens drawn os p.2 h k q 2 (.str x.2 k) h (k+1) q
inductive PairsAre (q:Pos):List (Sem Value×Sem Value)->List (Int×Str)->Prop
 |nil:PairsAre q [] []
 |cons {p x ps xs}:IsPair q p x->PairsAre q ps xs->PairsAre q (p::ps) (x::xs)
theorem PairsAre.length {q:Pos}{ps:List (Sem Value×Sem Value)}{xs:List (Int×Str)}(h:PairsAre q ps xs):ps.length=xs.length:=by
 induction h with
 |nil=>rfl
 |cons _ _ ih=>rw[List.length_cons,List.length_cons,ih]
theorem pairs_get {q:Pos}{ps:List (Sem Value×Sem Value)}{xs:List (Int×Str)}(h:PairsAre q ps xs):∀{j:Nat} {p:Sem Value×Sem Value},ps[j]? =some p->∃x,xs[j]? =some x/\IsPair q p x:=by
 induction h with
 |nil=>intro j p e;rw[List.getElem?_nil] at e;cases e
 |cons a _ ih=>
  intro j p e
  cases j with
  |zero=>cases e;exact⟨_,rfl,a⟩
  |succ j=>exact ih e
noncomputable def Asc:Int->List (Int×Str)->Prop
 |_,[]=>True
 |lo,x::xs=>lo<x.1/\x.1<2^32/\Asc x.1 xs
noncomputable def entL:Nat->List (Int×Str)->List DictEntry
 |_,[]=>[]
 |k,x::xs=>⟨x.1,.int x.1 k,.str x.2 (k+1)⟩::entL (k+3) xs
noncomputable def entS:Nat->List (Int×Str)->List DictEntry
 |_,[]=>[]
 |k,x::xs=>⟨x.1,.int x.1 k,.str x.2 (k+1)⟩::entS (k+2) xs
theorem entL_length:∀(k:Nat) (xs:List (Int×Str)),(entL k xs).length=xs.length
 |_,[]=>rfl
 |k,_::xs=>congrArg (· +1) (entL_length (k+3) xs)
theorem entS_length:∀(k:Nat) (xs:List (Int×Str)),(entS k xs).length=xs.length
 |_,[]=>rfl
 |k,_::xs=>congrArg (· +1) (entS_length (k+2) xs)
theorem Asc.at:∀{xs:List (Int×Str)} {lo:Int} {j:Nat} {x:Int×Str},Asc lo xs->xs[j]? =some x->lo<x.1/\x.1<2^32/\∀i y,i<j->xs[i]? =some y->y.1<x.1
 | [],_,_,_,_,e=>by rw[List.getElem?_nil] at e;cases e
 |a::xs,lo,0,x,h,e=>by
  cases e
  exact⟨h.1,h.2.1,fun i _ hi=>absurd hi (Nat.not_lt_zero _)⟩
 |a::xs,lo,j+1,x,h,e=>by
  have ih:=Asc.at h.2.2 (show xs[j]? =some x from e)
  refine⟨Int.lt_trans h.1 ih.1,ih.2.1,fun i y hi ey=>?_⟩
  cases i with
  |zero=>cases ey;exact ih.1
  |succ i=>exact ih.2.2 i y (by(walk_at "O")) ey
theorem entL_at:∀{xs:List (Int×Str)} {k j:Nat} {x:Int×Str},xs[j]? =some x->(entL k xs)[j]? =some ⟨x.1,.int x.1 (k+3*j),.str x.2 (k+3*j+1)⟩
 | [],_,_,_,e=>by rw[List.getElem?_nil] at e;cases e
 |a::xs,k,0,x,e=>by cases e;rfl
 |a::xs,k,j+1,x,e=>by
  show(entL (k+3) xs)[j]? =_
  rw[entL_at (show xs[j]? =some x from e),show k+3+3*j=k+3*(j+1) by(walk_at "O")]
theorem entS_at:∀{xs:List (Int×Str)} {k j:Nat} {x:Int×Str},xs[j]? =some x->(entS k xs)[j]? =some ⟨x.1,.int x.1 (k+2*j),.str x.2 (k+2*j+1)⟩
 | [],_,_,_,e=>by rw[List.getElem?_nil] at e;cases e
 |a::xs,k,0,x,e=>by cases e;rfl
 |a::xs,k,j+1,x,e=>by
  show(entS (k+2) xs)[j]? =_
  rw[entS_at (show xs[j]? =some x from e),show k+2+2*j=k+2*(j+1) by(walk_at "O")]
theorem take_snoc {α:Type}{l:List α}{j:Nat}{x:α}(e:l[j]? =some x):l.take (j+1)=l.take j++[x]:=by
 rw[List.take_add_one,e];rfl
theorem hash_le {es:List DictEntry}{xs:List (Int×Str)}(hl:es.length=xs.length)(he:∀(j:Nat) (x:Int×Str),xs[j]? =some x->∃e,es[j]? =some e/\e.hash=x.1){j:Nat}{i:Int}(hi:∀(a:Nat) (y:Int×Str),a<j->xs[a]? =some y->y.1<i):∀e∈es.take j,e.hash≠i:=by
 intro e h
 obtain⟨a,ha⟩:=List.getElem?_of_mem h
 rw[List.getElem?_take] at ha
 by_cases haj:a<j
 ·rw[if_pos haj] at ha
  have hlt:a<xs.length:=by rw[<-hl];exact(List.getElem?_eq_some_iff.mp ha).1
  obtain⟨e',he',hh⟩:=he a xs[a] (List.getElem?_eq_getElem hlt)
  rw[ha] at he'
  cases he'
  have:=hi a _ haj (List.getElem?_eq_getElem hlt)
  (walk_at "O")
 ·rw[if_neg haj] at ha;cases ha
theorem ru_subLong {q:Pos}{ps:List (Sem Value×Sem Value)}{xs:List (Int×Str)}{h:Heap}{k:Nat}(hp:PairsAre q ps xs)(ha:Asc (-1) xs)(h15:¬ ps.length<=15)(hl:xs.length<100000)(l0:11<=h.objs.size):
  Ru w gens drawn os (subDict ps) h k q (2+xs.length*13) h.objs.size (h.push (dObj (entL k xs) xs.length)) (k+3*xs.length) q:=by
 have l:Nat.ble 11 h.objs.size=true:=Nat.ble_eq_true_of_le l0
 rw[show 2+xs.length*13=1+(1+(xs.length*13+0)) by(walk_at "O")]
 refine Ru.bind Ru.alloc ?_
 refine Ru.bind (a:=()) (n:=1+(xs.length*13+0)) (m:=0) (Ru.holding ?_) Ru.pure'
 rw[if_neg h15]
 refine Ru.bind Ru.rule ?_
 have G:(h.push { cls:=.type "dict",data:=.dict #[] }).get? h.objs.size=some (dObj [] 0):=Heap.get?_push_size h rfl
 have e0:h.push { cls:=.type "dict",data:=.dict #[] }=Heap.puts (h.push { cls:=.type "dict",data:=.dict #[] }) h.objs.size (dObj ((entL k xs).take 0) 0):=by
  rw[puts_push];rfl
 have eN:h.push (dObj (entL k xs) xs.length)=Heap.puts (h.push { cls:=.type "dict",data:=.dict #[] }) h.objs.size (dObj ((entL k xs).take ps.length) ps.length):=by
  rw[puts_push,hp.length,List.take_of_length_le (by rw[entL_length];exact Nat.le_refl _)]
 rw[eN, <-hp.length]
 generalize h.push { cls:=.type "dict",data:=.dict #[] }=h₁ at G e0 ⊢
 rw[e0,puts_puts]
 have key:=ru_forIn (w:=w) (gens:=gens) (drawn:=drawn) (os:=os) (q:=q) (n:=13) (body:=fun(x:Sem Value×Sem Value) (_:PUnit)=>(do
   let kv<-x.1
   let vv<-holding [kv] x.2
   holding [kv,vv] (dictSet h.objs.size kv vv)
   pure (ForInStep.yield PUnit.unit):Sem (ForInStep PUnit))) ps
  (fun j=>Heap.puts h₁ h.objs.size (dObj ((entL k xs).take j) j)) (fun j=>k+3*j) (ps.length*13) (fun j p ep=>by
   obtain⟨x,ex,hx⟩:=pairs_get hp ep
   have hA:=ha.at ex
   have hj:j<xs.length:=(List.getElem?_eq_some_iff.mp ex).1
   refine Ru.bind (n:=1) (m:=12) hx.key ?_
   refine Ru.bind (n:=2) (m:=10) (Ru.holding hx.val) ?_
   refine Ru.bind (n:=10) (m:=0) (Ru.holding (Ru.dictSet (by(walk_at "O")) hA.2.1 l (puts_get G rfl) (hash_le (entL_length k xs) (fun a y ey=>⟨_,entL_at ey,rfl⟩) hA.2.2) (by rw[List.length_take,entL_length];(walk_at "O")))) ?_
   rw[puts_puts,take_snoc (entL_at ex)]
   exact Ru.pure') rfl
 refine Ru.bind (a:=PUnit.unit) (n:=ps.length*13) (m:=0) ?_ Ru.pure'
 exact key
end
end Uc
end
section
namespace Uc
section
variable {w:World}{gens:Array GenState}{drawn:Drawn}{os:OsState}
noncomputable def valS:Nat->List (Int×Str)->List (Value×Value)
 |_,[]=>[]
 |k,x::xs=>(.int x.1 k,.str x.2 (k+1))::valS (k+2) xs
theorem valS_length:∀(k:Nat) (xs:List (Int×Str)),(valS k xs).length=xs.length
 |_,[]=>rfl
 |k,_::xs=>congrArg (· +1) (valS_length (k+2) xs)
theorem valS_at:∀{xs:List (Int×Str)} {k j:Nat} {v:Value×Value},(valS k xs)[j]? =some v->∃x,xs[j]? =some x/\v=(.int x.1 (k+2*j),.str x.2 (k+2*j+1))
 | [],k,j,v,e=>by replace e:([]:List (Value×Value))[j]? =some v:=e;rw[List.getElem?_nil] at e;cases e
 |a::xs,k,0,x,e=>by cases e;exact⟨a,rfl,rfl⟩
 |a::xs,k,j+1,x,e=>by
  obtain⟨y,h1,h2⟩:=valS_at (xs:=xs) (k:=k+2) (j:=j) (v:=x) e
  exact⟨y,h1,by rw[h2,show k+2+2*j=k+2*(j+1) by(walk_at "O")]⟩
theorem ru_evalPairs {q:Pos}{h:Heap}{ps:List (Sem Value×Sem Value)}{xs:List (Int×Str)}{k:Nat}(hp:PairsAre q ps xs):
  Ru w gens drawn os (evalPairs ps) h k q (xs.length*3) (valS k xs) h (k+2*xs.length) q:=by
 induction hp generalizing k with
 |nil=>exact Ru.pure'
 |@cons p x ps xs a b ih=>
  rw[List.length_cons,show(xs.length+1)*3=1+(2+(xs.length*3+0)) by(walk_at "O"),show k+2*(xs.length+1)=k+1+1+2*xs.length by(walk_at "O")]
  refine Ru.bind a.key ?_
  refine Ru.bind (Ru.holding a.val) ?_
  exact Ru.bind (Ru.holding ih) Ru.pure'
theorem ru_subShort {q:Pos}{ps:List (Sem Value×Sem Value)}{xs:List (Int×Str)}{h:Heap}{k:Nat}(hp:PairsAre q ps xs)(ha:Asc (-1) xs)(h15:ps.length<=15)(hl:xs.length<100000)(l0:11<=h.objs.size):
  Ru w gens drawn os (subDict ps) h k q (1+xs.length*13) h.objs.size (h.push (dObj (entS k xs) xs.length)) (k+3*xs.length) q:=by
 have l:Nat.ble 11 h.objs.size=true:=Nat.ble_eq_true_of_le l0
 rw[show 1+xs.length*13=1+(xs.length*3+(xs.length*10+0)) by(walk_at "O")]
 refine Ru.bind Ru.alloc ?_
 refine Ru.bind (a:=()) (n:=xs.length*3+(xs.length*10+0)) (m:=0) (Ru.holding ?_) Ru.pure'
 rw[if_pos h15]
 refine Ru.bind (ru_evalPairs hp) ?_
 refine Ru.holding ?_
 have G:(h.push { cls:=.type "dict",data:=.dict #[] }).get? h.objs.size=some (dObj [] 0):=Heap.get?_push_size h rfl
 have e0:h.push { cls:=.type "dict",data:=.dict #[] }=Heap.puts (h.push { cls:=.type "dict",data:=.dict #[] }) h.objs.size (dObj ((entS k xs).take 0) 0):=by
  rw[puts_push];rfl
 have eN:h.push (dObj (entS k xs) xs.length)=Heap.puts (h.push { cls:=.type "dict",data:=.dict #[] }) h.objs.size (dObj ((entS k xs).take xs.length) xs.length):=by
  rw[puts_push,List.take_of_length_le (by rw[entS_length];exact Nat.le_refl _)]
 rw[eN]
 generalize h.push { cls:=.type "dict",data:=.dict #[] }=h₁ at G e0 ⊢
 rw[e0,puts_puts]
 have key:=ru_forIn (w:=w) (gens:=gens) (drawn:=drawn) (os:=os) (q:=q) (n:=10) (body:=fun(x:Value×Value) (_:PUnit)=>(do
   dictSet h.objs.size x.1 x.2
   pure (ForInStep.yield PUnit.unit):Sem (ForInStep PUnit))) (valS k xs)
  (fun j=>Heap.puts h₁ h.objs.size (dObj ((entS k xs).take j) j)) (fun j=>k+2*xs.length+j) (xs.length*10) (fun j p ep=>by
   obtain⟨x,ex,rfl⟩:=valS_at ep
   have hA:=ha.at ex
   have hj:j<xs.length:=(List.getElem?_eq_some_iff.mp ex).1
   refine Ru.bind (n:=10) (m:=0) (Ru.dictSet (by(walk_at "O")) hA.2.1 l (puts_get G rfl) (hash_le (entS_length k xs) (fun a y ey=>⟨_,entS_at ey,rfl⟩) hA.2.2) (by rw[List.length_take,entS_length];(walk_at "O"))) ?_
   rw[puts_puts,take_snoc (entS_at ex)]
   exact Ru.pure') (by rw[valS_length])
 rw[valS_length,show k+2*xs.length+xs.length=k+3*xs.length by(walk_at "O")] at key
 exact Ru.bind (a:=PUnit.unit) (n:=xs.length*10) (m:=0) key Ru.pure'
theorem dict_is:isSubtype (.type "dict") (.type "dict")=(pure true:Sem Bool):=by kernel_rfl
theorem dict_iter:typeLookup (.type "dict") (ofString "__iter__")=(pure (some (.builtin "dict.__iter__")):Sem (Option Value)):=by kernel_rfl
theorem Ru.from {α:Type}{x:Sem α}{a:α}{h h0 h1:Heap}{k k1:Nat}{q q1:Pos}{n:Nat}(e:h=h0)(r:Ru w gens drawn os x h0 k q n a h1 k1 q1):Ru w gens drawn os x h k q n a h1 k1 q1:=e▸r
theorem ru_merge {q:Pos}{d a:Addr}{es new:List DictEntry}{ep en:Nat}{h:Heap}{k:Nat}(l:Nat.ble 11 d=true)(hd:h.get? d=some (dObj es ep))(ha:h.get? a=some (dObj new en))(hda:d≠a)(hne:es≠[])(hs:(a==sysModules)=false)
  (hk:∀(j:Nat) (e:DictEntry),new[j]? =some e->(∃i t,e.key=.int i t/\e.hash=i)/\(∀x∈es,x.hash≠e.hash)/\∀(i:Nat) (x:DictEntry),i<j->new[i]? =some x->x.hash≠e.hash) (hl:es.length+new.length<100000):
  Ru w gens drawn os (mergeMapping d (.ref a) false) h k q (5+new.length*6) () (Heap.puts h d (dObj (es++new) (ep+new.length))) k q:=by
 rw[show 5+new.length*6=1+(1+(0+(1+(1+(1+(new.length*6+0)))))) by(walk_at "O")]
 unfold mergeMapping
 refine Ru.bind (a:=true) (h1:=h) (k1:=k) (q1:=q) (n:=1) ?_ ?_
 ·refine Ru.bind (n:=1) (m:=0) (a:=.type "dict") (Ru.bind (n:=1) (m:=0) (Ru.loadPart ha) Ru.pure') ?_
  rw[dict_is];exact Ru.pure'
 rw[if_pos rfl]
 refine Ru.bind (n:=1) (a:=some (.builtin "dict.__iter__")) (h1:=h) (k1:=k) (q1:=q) ?_ ?_
 ·refine Ru.bind (n:=1) (m:=0) (a:=.type "dict") (Ru.bind (n:=1) (m:=0) (Ru.loadPart ha) Ru.pure') ?_
  rw[dict_iter];exact Ru.pure'
 rw[beq_self_eq_true]
 refine Ru.bind (n:=0) (a:=true) Ru.pure' ?_
 (try dsimp only)
 rw[if_neg (by rw[hs];exact Bool.false_ne_true)]
 refine Ru.bind (n:=1) (Ru.dictEntries hd) ?_
 rw[if_neg (by cases es with|nil=>exact absurd rfl hne|cons=>simp)]
 refine Ru.bind (n:=1) (Ru.dictEntries ha) ?_
 refine Ru.bind (n:=1) (Ru.dictEpoch ha) ?_
 have e0:h=Heap.puts h d (dObj (es++new.take 0) ep):=by
  obtain⟨e1,_⟩:=Heap.get?_some_iff.mp hd
  obtain⟨objs,life⟩:=h
  simp only[Heap.puts,Heap.update,Heap.mk.injEq,and_true] at e1 ⊢
  apply Array.ext_getElem?
  intro i
  simp only[Array.getElem?_modify]
  by_cases h1:d=i
  ·subst h1;simp only[if_true,e1,Option.map_some,List.take_zero,List.append_nil]
  ·simp only[if_neg h1]
 have eN:Heap.puts h d (dObj (es++new) (ep+new.length))=Heap.puts h d (dObj (es++new.take new.length) (ep+new.length)):=by rw[List.take_length]
 rw[eN]
 refine Ru.bind (a:=PUnit.unit) (n:=new.length*6) (m:=0) ?_ Ru.pure'
 rw[List.size_toArray]
 refine Ru.from (e0.trans (by rw[Nat.add_zero]:_=Heap.puts h d (dObj (es++new.take 0) (ep+0)))) ?_
 have hlen:(List.range new.length).length=new.length:=List.length_range
 have key:=fun B hB=>ru_forIn (w:=w) (gens:=gens) (drawn:=drawn) (os:=os) (q:=q) (n:=6) (body:=B) (List.range new.length)
  (fun j=>Heap.puts h d (dObj (es++new.take j) (ep+j))) (fun _=>k) (new.length*6) hB (by rw[hlen])
 rw[hlen] at key
 refine key _ (fun j i ej=>?_)
 have hj:j<new.length:=by have:=(List.getElem?_eq_some_iff.mp ej).1;rwa [List.length_range] at this
 obtain rfl:i=j:=by rw[List.getElem?_range hj] at ej;exact(Option.some.inj ej).symm
 have eg:new[i]? =some new[i]:=List.getElem?_eq_getElem hj
 obtain⟨⟨iv,tv,hkey,hhash⟩,hk1,hk2⟩:=hk i _ eg
 have ha':∀o,(Heap.puts h d o).get? a=some (dObj new en):=fun o=>by rw[puts_get_ne hda];exact ha
 refine Ru.bind (n:=1) (m:=5) (Ru.dictEntries (ha' _)) ?_
 rw[List.getElem?_toArray,eg]
 (try dsimp only)
 refine Ru.bind (n:=4) (m:=1) (Ru.holding (?_:Ru _ _ _ _ _ _ _ _ _ () (Heap.puts h d (dObj (es++new.take (i+1)) (ep+(i+1)))) k q)) ?_
 ·have hput:=Ru.dictPut (w:=w) (gens:=gens) (drawn:=drawn) (os:=os) (a:=d) (es:=es++new.take i) (ep:=ep+i) (i:=iv) (t:=tv) (v:=new[i].val) (h:=Heap.puts h d (dObj (es++new.take i) (ep+i))) (k:=k) (q:=q) l (puts_get hd rfl) (fun x hx=>by
   rcases List.mem_append.mp hx with hx|hx
   ·rw[<-hhash];exact hk1 x hx
   ·obtain⟨b,hb⟩:=List.getElem?_of_mem hx
    rw[List.getElem?_take] at hb
    by_cases hbi:b<i
    ·rw[if_pos hbi] at hb
     rw[<-hhash]
     exact hk2 b x hbi hb
    ·rw[if_neg hbi] at hb;cases hb) (by rw[List.length_append,List.length_take];(walk_at "O"))
  rw[puts_puts,List.append_assoc] at hput
  have ee:(⟨iv,.int iv tv,new[i].val⟩:DictEntry)=new[i]:=by
   have:new[i]=⟨new[i].hash,new[i].key,new[i].val⟩:=rfl
   rw[this,hkey,hhash]
  rw[ee, <-take_snoc eg] at hput
  rw[hkey,hhash]
  exact hput
 ·refine Ru.bind (n:=1) (m:=0) (Ru.dictEpoch (ha' _)) ?_
  rw[bne_self_eq_false,if_neg Bool.false_ne_true]
  exact Ru.pure'
end
end Uc
end
section
namespace Uc
section
variable {w:World}{gens:Array GenState}{drawn:Drawn}{os:OsState}
theorem PairsAre.take {q:Pos}{ps:List (Sem Value×Sem Value)}{xs:List (Int×Str)}(h:PairsAre q ps xs):∀n,PairsAre q (ps.take n) (xs.take n):=by
 induction h with
 |nil=>intro n;rw[List.take_nil,List.take_nil];exact .nil
 |cons a _ ih=>
  intro n
  cases n with
  |zero=>exact .nil
  |succ n=>exact .cons a (ih n)
theorem PairsAre.drop {q:Pos}{ps:List (Sem Value×Sem Value)}{xs:List (Int×Str)}(h:PairsAre q ps xs):∀n,PairsAre q (ps.drop n) (xs.drop n):=by
 induction h with
 |nil=>intro n;rw[List.drop_nil,List.drop_nil];exact .nil
 |cons a b ih=>
  intro n
  cases n with
  |zero=>exact .cons a b
  |succ n=>exact ih n
noncomputable abbrev Pair:=Sem Value×Sem Value
noncomputable def someP (p:Pair):Option (Sem Value)×Sem Value:=(some p.1,p.2)
noncomputable def flushD (run:List Pair)(main:Option Addr):Sem (Option Addr):=
 if run.isEmpty=true then pure main
 else match main with
  |none=>do
   let d<-subDict run
   pure (some d)
  |some d=>do
   let sub<-holding [Value.ref d] (subDict run)
   (holding [Value.ref d,Value.ref sub] (mergeMapping d (Value.ref sub) false)).onRaise fun x=>do
     let _<-holding [Value.ref d,x] (runValue (Code.builtin "proto.let_go" { }))
     pure ()
   pure (some d)
noncomputable abbrev LoopB:=(Option (Sem Value)×Sem Value)->(Option Addr×List Pair)->Sem (ForInStep (Option Addr×List Pair))
noncomputable def IsLoop (body:LoopB):Prop:=∀(p:Pair) (m:Option Addr) (r:List Pair),body (someP p) (m,r)= 
 (if ((r++[p]).length==17)=true then flushD (r++[p]) m>>=fun m'=>pure (ForInStep.yield (m',[])) else pure (ForInStep.yield (m,r++[p])))
theorem loop_run {body:LoopB}(hb:IsLoop body):∀(A:List Pair) (R:List (Option (Sem Value)×Sem Value)) (m:Option Addr) (r:List Pair),r.length+A.length<17->
  (forIn (A.map someP++R) (m,r) body:Sem _)=forIn R (m,r++A) body
 | [],R,m,r,_=>by rw[List.map_nil,List.nil_append,List.append_nil]
 |p::A,R,m,r,h=>by
  rw[List.length_cons] at h
  rw[List.map_cons,List.cons_append,List.forIn_cons,hb,if_neg (by rw[List.length_append,List.length_singleton,beq_iff_eq];(walk_at "O"))]
  show(forIn (A.map someP++R) (m,r++[p]) body:Sem _)=_
  rw[loop_run hb A R m (r++[p]) (by rw[List.length_append,List.length_singleton];(walk_at "O")),List.append_assoc,List.singleton_append]
theorem loop_flush {body:LoopB}(hb:IsLoop body){A:List Pair}{R:List (Option (Sem Value)×Sem Value)}{m m':Option Addr}(hA:A.length=17){h h1 h2:Heap}{k k1 k2:Nat}{q q2:Pos}{n n':Nat}{v:Option Addr×List Pair}
  (r1:Ru w gens drawn os (flushD A m) h k q n m' h1 k1 q) (r2:Ru w gens drawn os (forIn R (m',[]) body) h1 k1 q n' v h2 k2 q2):
  Ru w gens drawn os (forIn (A.map someP++R) (m,[]) body) h k q (n+n') v h2 k2 q2:=by
 obtain⟨A',p,rfl⟩:∃A' p,A=A'++[p]:=by
  rcases List.eq_nil_or_concat A with rfl|⟨A',p,e⟩
  ·cases hA
  ·exact⟨A',p,by rw[e,List.concat_eq_append]⟩
 rw[List.length_append,List.length_singleton] at hA
 rw[List.map_append,List.append_assoc,loop_run hb A' _ m [] (by simp only[List.length_nil];(walk_at "O")),List.nil_append,List.map_singleton,List.singleton_append,List.forIn_cons,hb,
  if_pos (by rw[List.length_append,List.length_singleton,beq_iff_eq];(walk_at "O"))]
 refine Ru.bind (m:=n') (n:=n) (a:=.yield (m',[])) (Ru.bind (n:=n) (m:=0) r1 Ru.pure') ?_
 exact r2
theorem Asc.mono:∀{xs:List (Int×Str)} {lo lo':Int},Asc lo xs->lo'<=lo->Asc lo' xs
 | [],_,_,_,_=>trivial
 |_::_,_,_,h,l=>⟨by have:=h.1;(walk_at "O"),h.2⟩
theorem Asc.take:∀{xs:List (Int×Str)} {lo:Int} (n:Nat),Asc lo xs->Asc lo (xs.take n)
 | [],_,n,_=>by rw[List.take_nil];trivial
 |_::_,_,0,_=>trivial
 |_::_,_,n+1,h=>⟨h.1,h.2.1,Asc.take n h.2.2⟩
theorem Asc.drop:∀{xs:List (Int×Str)} {lo:Int} (n:Nat),Asc lo xs->∃lo',lo<=lo'/\Asc lo' (xs.drop n)/\(∀x∈xs.take n,x.1<=lo')
 | [],lo,n,h=>⟨lo,Int.le_refl _,by rw[List.drop_nil];trivial,fun x hx=>by rw[List.take_nil] at hx;cases hx⟩
 |x::xs,lo,0,h=>⟨lo,Int.le_refl _,h,fun x hx=>nomatch hx⟩
 |x::xs,lo,n+1,h=>by
  obtain⟨lo',h1,h2,h3⟩:=Asc.drop n h.2.2
  refine⟨lo',by have:=h.1;(walk_at "O"),h2,fun y hy=>?_⟩
  rcases List.mem_cons.mp hy with rfl|hy
  ·exact h1
  ·exact h3 y hy
theorem new_apart {es new:List DictEntry}{xs:List (Int×Str)}{lo:Int}(hn:new.length=xs.length)(hat:∀(j:Nat) (x:Int×Str),xs[j]? =some x->∃t v,new[j]? =some ⟨x.1,.int x.1 t,v⟩)(ha:Asc lo xs)(hes:∀e∈es,e.hash<=lo):
  ∀(j:Nat) (e:DictEntry),new[j]? =some e->(∃i t,e.key=.int i t/\e.hash=i)/\(∀x∈es,x.hash≠e.hash)/\∀(i:Nat) (x:DictEntry),i<j->new[i]? =some x->x.hash≠e.hash:=by
 intro j e he
 have hj:j<xs.length:=by rw[<-hn];exact(List.getElem?_eq_some_iff.mp he).1
 obtain⟨t,v,h1⟩:=hat j xs[j] (List.getElem?_eq_getElem hj)
 rw[he] at h1
 cases h1
 have hA:=ha.at (List.getElem?_eq_getElem hj)
 refine⟨⟨_,_,rfl,rfl⟩,fun x hx=>?_,fun i x hi hx=>?_⟩
 ·have:=hes x hx
  have:=hA.1
  show x.hash≠xs[j].1
  (walk_at "O")
 ·have hi':i<xs.length:=by rw[<-hn];exact(List.getElem?_eq_some_iff.mp hx).1
  obtain⟨t',v',h2⟩:=hat i xs[i] (List.getElem?_eq_getElem hi')
  rw[hx] at h2
  cases h2
  have:=hA.2.2 i _ hi (List.getElem?_eq_getElem hi')
  show xs[i].1≠xs[j].1
  (walk_at "O")
theorem entL_hash {k:Nat}{xs:List (Int×Str)}{e:DictEntry}(h:e∈entL k xs):∃x∈xs,e.hash=x.1:=by
 induction xs generalizing k with
 |nil=>cases h
 |cons x xs ih=>
  rcases List.mem_cons.mp h with rfl|h
  ·exact⟨x,.head _,rfl⟩
  ·obtain⟨y,hy,e⟩:=ih h;exact⟨y,.tail _ hy,e⟩
theorem ru_flush {q:Pos}{A:List Pair}{xs:List (Int×Str)}{d:Addr}{es:List DictEntry}{ep:Nat}{h:Heap}{k:Nat}{lo:Int}(hp:PairsAre q A xs)(h17:xs.length=17)(ha:Asc lo xs)(hlo: -1<=lo)(hd:h.get? d=some (dObj es ep))(hes:∀e∈es,e.hash<=lo)(hne:es≠[])(hl:es.length<90000)(l:11<=d):
  Ru w gens drawn os (flushD A (some d)) h k q 330 (some d) ((Heap.puts h d (dObj (es++entL k xs) (ep+17))).push (dObj (entL k xs) 17)) (k+51) q:=by
 have hdl:=Heap.lt_size hd
 have l':11<=h.objs.size:=Nat.le_of_lt (Nat.lt_of_le_of_lt l hdl)
 have hA17:A.length=17:=by rw[hp.length,h17]
 unfold flushD
 rw[if_neg (by cases A with|nil=>cases hA17|cons=>simp)]
 (try dsimp only)
 have hsub:=ru_subLong (w:=w) (gens:=gens) (drawn:=drawn) (os:=os) (h:=h) (k:=k) hp (ha.mono hlo) (by rw[hA17];(walk_at "O")) (by rw[h17];(walk_at "O")) l'
 rw[h17] at hsub
 refine Ru.bind (n:=223) (m:=107) (Ru.holding hsub) ?_
 refine Ru.bind (n:=107) (m:=0) (a:=()) (Ru.onRaise (Ru.holding ?_)) Ru.pure'
 have hd':(h.push (dObj (entL k xs) 17)).get? d=some (dObj es ep):=Heap.get?_push_of_some _ hd
 have hm:=ru_merge (w:=w) (gens:=gens) (drawn:=drawn) (os:=os) (q:=q) (k:=k+3*17) (d:=d) (a:=h.objs.size) (es:=es) (new:=entL k xs) (ep:=ep) (en:=17) (h:=h.push (dObj (entL k xs) 17))
  (Nat.ble_eq_true_of_le l) hd' (Heap.get?_push_size h rfl) (Nat.ne_of_lt hdl) hne (beq_eq_false_iff_ne.mpr (Nat.ne_of_gt (Nat.lt_of_lt_of_le (by decide) l'))) (new_apart (entL_length k xs) (fun j x e=>⟨_,_,entL_at e⟩) ha hes) (by rw[entL_length];(walk_at "O"))
 rw[entL_length,h17,puts_push_ne _ _ _ (Nat.ne_of_lt hdl)] at hm
 exact hm
theorem ru_flushS {q:Pos}{A:List Pair}{xs:List (Int×Str)}{d:Addr}{es:List DictEntry}{ep:Nat}{h:Heap}{k:Nat}{lo:Int}(hp:PairsAre q A xs)(h0:xs≠[])(h15:xs.length<=15)(ha:Asc lo xs)(hlo: -1<=lo)(hd:h.get? d=some (dObj es ep))(hes:∀e∈es,e.hash<=lo)(hne:es≠[])(hl:es.length<90000)(l:11<=d):
  Ru w gens drawn os (flushD A (some d)) h k q (6+xs.length*19) (some d) ((Heap.puts h d (dObj (es++entS k xs) (ep+xs.length))).push (dObj (entS k xs) xs.length)) (k+3*xs.length) q:=by
 have hdl:=Heap.lt_size hd
 have l':11<=h.objs.size:=Nat.le_of_lt (Nat.lt_of_le_of_lt l hdl)
 have hA:A.length=xs.length:=hp.length
 unfold flushD
 rw[if_neg (by cases A with|nil=>(cases xs with|nil=>exact absurd rfl h0|cons=>cases hA)|cons=>simp)]
 (try dsimp only)
 have hsub:=ru_subShort (w:=w) (gens:=gens) (drawn:=drawn) (os:=os) (h:=h) (k:=k) hp (ha.mono hlo) (by rw[hA];exact h15) (by(walk_at "O")) l'
 rw[show 6+xs.length*19=(1+xs.length*13)+(5+xs.length*6) by(walk_at "O")]
 refine Ru.bind (Ru.holding hsub) ?_
 refine Ru.bind (n:=5+xs.length*6) (m:=0) (a:=()) (Ru.onRaise (Ru.holding ?_)) Ru.pure'
 have hd':(h.push (dObj (entS k xs) xs.length)).get? d=some (dObj es ep):=Heap.get?_push_of_some _ hd
 have hm:=ru_merge (w:=w) (gens:=gens) (drawn:=drawn) (os:=os) (q:=q) (k:=k+3*xs.length) (d:=d) (a:=h.objs.size) (es:=es) (new:=entS k xs) (ep:=ep) (en:=xs.length) (h:=h.push (dObj (entS k xs) xs.length))
  (Nat.ble_eq_true_of_le l) hd' (Heap.get?_push_size h rfl) (Nat.ne_of_lt hdl) hne (beq_eq_false_iff_ne.mpr (Nat.ne_of_gt (Nat.lt_of_lt_of_le (by decide) l'))) (new_apart (entS_length k xs) (fun j x e=>⟨_,_,entS_at e⟩) ha hes) (by rw[entS_length];(walk_at "O"))
 rw[entS_length,puts_push_ne _ _ _ (Nat.ne_of_lt hdl)] at hm
 exact hm
end
end Uc
end
section
namespace Uc
noncomputable def pushN:Nat->Heap->Nat->List (Int×Str)->Heap
 |0,h,_,_=>h
 |n+1,h,k,xs=>pushN n (h.push (dObj (entL k (xs.take 17)) 17)) (k+51) (xs.drop 17)
theorem pushN_s (n:Nat)(h:Heap)(k:Nat)(xs:List (Int×Str)):pushN (n+1) h k xs=pushN n (h.push (dObj (entL k (xs.take 17)) 17)) (k+51) (xs.drop 17):=rfl
theorem entL_s (k:Nat)(x:Int×Str)(xs:List (Int×Str)):entL k (x::xs)=⟨x.1,.int x.1 k,.str x.2 (k+1)⟩::entL (k+3) xs:=rfl
theorem entL_append:∀(k n:Nat) (xs:List (Int×Str)),n<=xs.length->entL k xs=entL k (xs.take n)++entL (k+3*n) (xs.drop n)
 |k,0,xs,_=>rfl
 |k,n+1,[],h=>absurd h (by simp)
 |k,n+1,x::xs,h=>by
  rw[List.take_succ_cons,List.drop_succ_cons,entL_s,entL_s,entL_append (k+3) n xs (by simpa using h),show k+3+3*n=k+3*(n+1) by(walk_at "O"),List.cons_append]
theorem pushN_size:∀(n:Nat) (h:Heap) (k:Nat) (xs:List (Int×Str)),(pushN n h k xs).objs.size=h.objs.size+n
 |0,_,_,_=>rfl
 |n+1,h,k,xs=>by
  rw[pushN_s,pushN_size n]
  have:(h.push (dObj (entL k (xs.take 17)) 17)).objs.size=h.objs.size+1:=by cases h;simp[Heap.push]
  rw[this];(walk_at "O")
theorem puts_pushN:∀(n:Nat) (h:Heap) (k:Nat) (xs:List (Int×Str)) {d:Addr} (o:Obj),(d:Nat)<h.objs.size->Heap.puts (pushN n h k xs) d o=pushN n (Heap.puts h d o) k xs
 |0,_,_,_,_,_,_=>rfl
 |n+1,h,k,xs,d,o,hd=>by
  have:(h.push (dObj (entL k (xs.take 17)) 17)).objs.size=h.objs.size+1:=by cases h;simp[Heap.push]
  rw[pushN_s,pushN_s,puts_pushN n _ _ _ _ (by rw[this];exact Nat.lt_succ_of_lt hd),puts_push_ne _ _ _ (Nat.ne_of_lt hd)]
section
variable {w:World}{gens:Array GenState}{drawn:Drawn}{os:OsState}
theorem ru_groups {body:LoopB}(hb:IsLoop body){q:Pos}{d:Addr}(l:11<=d):∀(N:Nat) {ps:List Pair} {xs:List (Int×Str)} {es:List DictEntry} {ep:Nat} {h:Heap} {k:Nat} {lo:Int},PairsAre q ps xs->17*N<=xs.length->Asc lo xs-> -1<=lo->h.get? d=some (dObj es ep)->(∀e∈es,e.hash<=lo)->es≠[]->es.length+17*N<90000->
  ∀{n' k2:Nat} {h2:Heap} {q2:Pos} {v:Option Addr×List Pair},
  Ru w gens drawn os (forIn ((ps.drop (17*N)).map someP) (some d,[]) body) (pushN N (Heap.puts h d (dObj (es++entL k (xs.take (17*N))) (ep+17*N))) k xs) (k+51*N) q n' v h2 k2 q2->
  Ru w gens drawn os (forIn (ps.map someP) (some d,[]) body) h k q (330*N+n') v h2 k2 q2:=by
 intro N
 induction N with
 |zero=>
  intro ps xs es ep h k lo hp hN ha hlo hd hes hne hl n' k2 h2 q2 v r
  have e0:Heap.puts h d (dObj (es++entL k (xs.take (17*0))) (ep+17*0))=h:=by
   obtain⟨e1,_⟩:=Heap.get?_some_iff.mp hd
   obtain⟨objs,life⟩:=h
   simp only[Heap.puts,Heap.update,Heap.mk.injEq,and_true] at e1 ⊢
   apply Array.ext_getElem?
   intro i
   simp only[Array.getElem?_modify]
   by_cases h1:d=i
   ·subst h1;simp only[if_true,e1,Option.map_some,Nat.mul_zero,List.take_zero,show ∀k,entL k []=[] from fun _=>rfl,List.append_nil,Nat.add_zero]
   ·simp only[if_neg h1]
  rw[show ∀h k xs,pushN 0 h k xs=h from fun _ _ _=>rfl,e0] at r
  simp only[Nat.mul_zero,List.drop_zero,Nat.add_zero] at r
  rw[Nat.mul_zero,Nat.zero_add]
  exact r
 |succ N ih=>
  intro ps xs es ep h k lo hp hN ha hlo hd hes hne hl n' k2 h2 q2 v r
  have hxl:(xs.take 17).length=17:=by rw[List.length_take];(walk_at "O")
  have hpl:(ps.take 17).length=17:=by rw[List.length_take,hp.length];(walk_at "O")
  obtain⟨lo',hlo',ha',hle⟩:=Asc.drop 17 ha
  have hf:=ru_flush (w:=w) (gens:=gens) (drawn:=drawn) (os:=os) (k:=k) (hp.take 17) hxl (ha.take 17) hlo hd hes hne (by(walk_at "O")) l
  have hdl:=Heap.lt_size hd
  have e2:ps.map someP=(ps.take 17).map someP++(ps.drop 17).map someP:=by rw[<-List.map_append,List.take_append_drop]
  rw[e2,show 330*(N+1)+n'=330+(330*N+n') by(walk_at "O")]
  refine loop_flush hb hpl hf ?_
  have hdl':(d:Nat)<(Heap.puts h d (dObj (es++entL k (xs.take 17)) (ep+17))).objs.size:=by rw[puts_size];exact hdl
  refine ih (lo:=lo') (hp.drop 17) (by rw[List.length_drop];(walk_at "O")) ha' (by(walk_at "O")) (Heap.get?_push_of_some _ (puts_get hd rfl)) (fun e he=>?_) (fun q=>?_) (by rw[List.length_append,entL_length,hxl];(walk_at "O")) ?_
  ·rcases List.mem_append.mp he with he|he
   ·have:=hes e he;(walk_at "O")
   ·obtain⟨x,hx,ex⟩:=entL_hash he
    have:=hle x hx
    (walk_at "O")
  ·rcases List.append_eq_nil_iff.mp q with ⟨q,_⟩
   exact hne q
  ·rw[puts_push_ne _ _ _ (Nat.ne_of_lt hdl'),puts_puts,List.append_assoc]
   have e3:entL k (xs.take 17)++entL (k+51) ((xs.drop 17).take (17*N))=entL k (xs.take (17*(N+1))):=by
    rw[entL_append k 17 (xs.take (17*(N+1))) (by rw[List.length_take];(walk_at "O")),List.take_take,show min 17 (17*(N+1))=17 by(walk_at "O"),List.drop_take,show 17*(N+1)-17=17*N by(walk_at "O")]
   rw[e3,List.drop_drop,show 17+17*N=17*(N+1) by(walk_at "O"),show ep+17+17*N=ep+17*(N+1) by(walk_at "O"),show k+51+51*N=k+51*(N+1) by(walk_at "O")]
   exact r
theorem ru_display {q:Pos}{ps:List Pair}{xs:List (Int×Str)}{h:Heap}{k N m:Nat}(hp:PairsAre q ps xs)(hx:xs.length=17*(N+1)+m)(hm0:0<m)(hm:m<=15)(ha:Asc (-1) xs)(hl:xs.length<80000)(l:11<=h.objs.size):
  Ru w gens drawn os (dictDisplay (ps.map someP)) h k q (229+330*N+m*19) (.ref h.objs.size)
   ((pushN N (h.push (dObj (entL k (xs.take (17*(N+1)))++entS (k+51*(N+1)) (xs.drop (17*(N+1)))) (17*(N+1)+m))) (k+51) (xs.drop 17)).push (dObj (entS (k+51*(N+1)) (xs.drop (17*(N+1)))) m)) (k+51*(N+1)+3*m) q:=by
 have hxl:(xs.take 17).length=17:=by rw[List.length_take];(walk_at "O")
 have hpl:(ps.take 17).length=17:=by rw[List.length_take,hp.length];(walk_at "O")
 obtain⟨lo1,hlo1,ha1,hle1⟩:=Asc.drop 17 ha
 obtain⟨lo2,hlo2,ha2,hle2⟩:=Asc.drop (17*(N+1)) ha
 have hs:(h.push (dObj (entL k (xs.take 17)) 17)).objs.size=h.objs.size+1:=by cases h;simp[Heap.push]
 -- the first group
 have h1:Ru w gens drawn os (flushD (ps.take 17) none) h k q 223 (some h.objs.size) (h.push (dObj (entL k (xs.take 17)) 17)) (k+51) q:=by
  unfold flushD
  rw[if_neg (by cases e:ps.take 17 with|nil=>rw[e] at hpl;cases hpl|cons=>simp)]
  (try dsimp only)
  have:=ru_subLong (w:=w) (gens:=gens) (drawn:=drawn) (os:=os) (h:=h) (k:=k) (hp.take 17) (ha.take 17) (by rw[hpl];(walk_at "O")) (by rw[hxl];(walk_at "O")) l
  rw[hxl] at this
  exact Ru.bind (n:=223) (m:=0) this Ru.pure'
 have hd:(h.push (dObj (entL k (xs.take 17)) 17)).get? h.objs.size=some (dObj (entL k (xs.take 17)) 17):=Heap.get?_push_size h rfl
 have hdl:(xs.drop (17*(N+1))).length=m:=by rw[List.length_drop];(walk_at "O")
 have e2:ps.map someP=(ps.take 17).map someP++(ps.drop 17).map someP:=by rw[<-List.map_append,List.take_append_drop]
 have e3:entL k (xs.take 17)++entL (k+51) ((xs.drop 17).take (17*N))=entL k (xs.take (17*(N+1))):=by
  rw[entL_append k 17 (xs.take (17*(N+1))) (by rw[List.length_take];(walk_at "O")),List.take_take,show min 17 (17*(N+1))=17 by(walk_at "O"),List.drop_take,show 17*(N+1)-17=17*N by(walk_at "O")]
 have e4:(ps.drop 17).drop (17*N)=ps.drop (17*(N+1)):=by rw[List.drop_drop,show 17+17*N=17*(N+1) by(walk_at "O")]
 -- the short group's flush
 have hH:(pushN N (h.push (dObj (entL k (xs.take (17*(N+1)))) (17*(N+1)))) (k+51) (xs.drop 17)).get? h.objs.size=some (dObj (entL k (xs.take (17*(N+1)))) (17*(N+1))):=by
  have key:∀(n:Nat) (H:Heap) (k:Nat) (xs:List (Int×Str)) (a:Addr) (o:Obj),H.get? a=some o->(pushN n H k xs).get? a=some o:=fun n=>by
   induction n with
   |zero=>intro H k xs a o e;exact e
   |succ n ih=>intro H k xs a o e;exact ih _ _ _ _ _ (Heap.get?_push_of_some _ e)
  exact key _ _ _ _ _ _ (Heap.get?_push_size h rfl)
 have hne:entL k (xs.take (17*(N+1)))≠[]:=fun q=>by
  have:=congrArg List.length q
  rw[entL_length,List.length_take,List.length_nil] at this
  (walk_at "O")
 have h3:=ru_flushS (w:=w) (gens:=gens) (drawn:=drawn) (os:=os) (q:=q) (A:=ps.drop (17*(N+1))) (xs:=xs.drop (17*(N+1))) (k:=k+51*(N+1)) (lo:=lo2) (hp.drop _) (fun q=>by rw[q] at hdl;simp at hdl;(walk_at "O")) (by rw[hdl];exact hm) ha2 (by(walk_at "O")) hH
  (fun e he=>by
   obtain⟨x,hx,ex⟩:=entL_hash he
   have:=hle2 x hx
   (walk_at "O")) hne (by rw[entL_length,List.length_take];(walk_at "O")) l
 rw[hdl,puts_pushN _ _ _ _ _ (by cases h;simp[Heap.push]),puts_push] at h3
 rw[show 229+330*N+m*19=223+(330*N+0)+(6+m*19) by(walk_at "O")]
 unfold dictDisplay
 (try dsimp only)
 refine Ru.bind (n:=223+(330*N+0)) (m:=6+m*19) (a:=(some h.objs.size,ps.drop (17*(N+1)))) (h1:=pushN N (h.push (dObj (entL k (xs.take (17*(N+1)))) (17*(N+1)))) (k+51) (xs.drop 17)) (k1:=k+51*(N+1)) (q1:=q) ?_ ?_
 ·rw[e2]
  refine loop_flush (fun p m r=>?_) hpl h1 ?_
  ·rfl
  ·refine ru_groups (fun p m r=>?_) l N (lo:=lo1) (hp.drop 17) (by rw[List.length_drop];(walk_at "O")) ha1 hlo1 hd (fun e he=>?_) (fun q=>?_) (by rw[entL_length,hxl];(walk_at "O")) ?_
   ·rfl
   ·obtain⟨x,hx,ex⟩:=entL_hash he
    have:=hle1 x hx
    (walk_at "O")
   ·have:=congrArg List.length q
    rw[entL_length,hxl] at this
    cases this
   ·rw[puts_push,e3,e4,show 17+17*N=17*(N+1) by(walk_at "O"),show k+51+51*N=k+51*(N+1) by(walk_at "O")]
    have hpd:(ps.drop (17*(N+1))).length=m:=by rw[List.length_drop,hp.length];(walk_at "O")
    have run:∀(body:LoopB),IsLoop body->Ru w gens drawn os (forIn ((ps.drop (17*(N+1))).map someP) (some h.objs.size,[]) body) (pushN N (h.push (dObj (entL k (xs.take (17*(N+1)))) (17*(N+1)))) (k+51) (xs.drop 17)) (k+51*(N+1)) q 0 (some h.objs.size,ps.drop (17*(N+1))) (pushN N (h.push (dObj (entL k (xs.take (17*(N+1)))) (17*(N+1)))) (k+51) (xs.drop 17)) (k+51*(N+1)) q:=fun body hb=>by
     have:=loop_run hb (ps.drop (17*(N+1))) [] (some h.objs.size) [] (by rw[hpd];simp only[List.length_nil];(walk_at "O"))
     rw[List.append_nil,List.nil_append] at this
     rw[this]
     exact Ru.pure'
    exact run _ (fun p m r=>rfl)
 ·refine Ru.bind (n:=6+m*19) (m:=0) (a:=some h.objs.size) ?_ Ru.pure'
  exact h3
end
end Uc
end
section
namespace Uc
noncomputable def dataOf:List (Option Expr)->List Expr->List (Int×Str)
 | [],_=>[]
 |_::_,[]=>[]
 |k::ks,v::vs=>((intE k).getD 0,(strE v).getD Str.empty)::dataOf ks vs
noncomputable def keyOk (k:Option Expr):Bool:=(intE k).isSome
noncomputable def valOk (e:Expr):Bool:=(strE e).isSome
theorem cst_ok {e:Expr}{c:Const}(h:cstOf e=some c):∃a b,e=.Constant c a b:=by
 cases e<;>first|(cases h;done)|(cases h;exact⟨_,_,rfl⟩)
theorem intC_ok {c:Const}{i:Int}(h:intC c=some i):c=.int i:=by
 cases c<;>first|(cases h;done)|(cases h;rfl)
theorem strC_ok {c:Const}{i:Str}(h:strC c=some i):c=.str i:=by
 cases c<;>first|(cases h;done)|(cases h;rfl)
theorem bind_some {α β:Type}{o:Option α}{f:α->Option β}(h:(o.bind f).isSome=true):∃a b,o=some a/\f a=some b:=by
 cases o with
 |none=>cases h
 |some a=>
  replace h:(f a).isSome=true:=h
  cases e:f a with
  |none=>rw[e] at h;cases h
  |some b=>exact⟨a,b,rfl,e⟩
noncomputable def shapeOk:List (Option Expr)->List Expr->Bool
 | []=>fun vs=>vs.isEmpty
 |k::ks=>fun vs=>keyOk k&&valOk (vs.headD (.Tuple [] 0 ⟨0,0,0,0⟩))&& !vs.isEmpty&&shapeOk ks vs.tail
theorem key_ok {k:Option Expr}(h:keyOk k=true):∃i a b,k=some (.Constant (.int i) a b):=by
 cases k with
 |none=>cases h
 |some e=>
  obtain⟨c,i,h1,h2⟩:=bind_some (o:=cstOf e) h
  obtain⟨a,b,e1⟩:=cst_ok h1
  exact⟨i,a,b,by rw[e1,intC_ok h2]⟩
theorem val_ok {e:Expr}(h:valOk e=true):∃x a b,e=.Constant (.str x) a b:=by
 obtain⟨c,i,h1,h2⟩:=bind_some (o:=cstOf e) h
 obtain⟨a,b,e1⟩:=cst_ok h1
 exact⟨i,a,b,by rw[e1,strC_ok h2]⟩
noncomputable def itemsOf (ks:List (Option Expr))(vs:List Expr)(pos:Pos)(env:Env):List (Option (Sem Value)×Sem Value):=
 (evalEachOpt ks env).zip ((evalEach vs env).map fun v=>do let x<-v;standAt pos;pure x)
theorem eval_const (c:Const)(a:_)(b:_)(env:Env):eval (.Constant c a b) env=constValue env c:=by kernel_rfl
theorem eval_dict (ks:List (Option Expr))(vs:List Expr)(p:Pos)(env:Env):eval (.Dict ks vs p) env=(standAt p>>=fun _=>dictDisplay (itemsOf ks vs p env)):=by kernel_rfl
theorem each_cons (e:Expr)(es:List Expr)(env:Env):evalEach (e::es) env=eval e env::evalEach es env:=by kernel_rfl
theorem eachO_cons (e:Expr)(es:List (Option Expr))(env:Env):evalEachOpt (some e::es) env=some (eval e env)::evalEachOpt es env:=by kernel_rfl
theorem shape_cons {k:Option Expr}{ks:List (Option Expr)}{e:Expr}{vs:List Expr}(h:shapeOk (k::ks) (e::vs)=true):∃i a b x a' b',k=some (.Constant (.int i) a b)/\e=.Constant (.str x) a' b'/\shapeOk ks vs=true:=by
 replace h:(keyOk k&&valOk e&&true&&shapeOk ks vs)=true:=h
 rw[Bool.and_true,Bool.and_eq_true,Bool.and_eq_true] at h
 obtain⟨i,a,b,e1⟩:=key_ok h.1.1
 obtain⟨x,a',b',e2⟩:=val_ok h.1.2
 exact⟨i,a,b,x,a',b',e1,e2,h.2⟩
theorem items_of {pos:Pos}{env:Env}:∀(ks:List (Option Expr)) (vs:List Expr),shapeOk ks vs=true->∃ps,itemsOf ks vs pos env=ps.map someP/\PairsAre pos ps (dataOf ks vs):=by
 intro ks
 induction ks with
 |nil=>
  intro vs h
  cases vs with
  |nil=>exact⟨[],rfl,.nil⟩
  |cons e vs=>exact Bool.noConfusion h
 |cons k ks ih=>
  intro vs h
  cases vs with
  |nil=>
   replace h:(keyOk k&&_&&false&&_)=true:=h
   rw[Bool.and_false,Bool.false_and] at h
   cases h
  |cons e vs=>
   obtain⟨i,a,b,x,a',b',rfl,rfl,h⟩:=shape_cons h
   obtain⟨ps,e,hp⟩:=ih vs h
   refine⟨(constValue env (.int i),(do let y<-constValue env (.str x);standAt pos;pure y))::ps,?_,.cons ⟨?_,?_⟩ hp⟩
   ·rw[List.map_cons, <-e]
    unfold itemsOf
    rw[eachO_cons,each_cons,eval_const,eval_const,List.map_cons,List.zip_cons_cons]
    rfl
   ·intro w gens drawn os h k
    exact Ru.bind (n:=1) (m:=0) Ru.fresh Ru.pure'
   ·intro w gens drawn os h k
    exact Ru.bind (n:=1) (m:=1) (Ru.bind (n:=1) (m:=0) Ru.fresh Ru.pure') (Ru.bind (n:=1) (m:=0) Ru.standAt Ru.pure')
noncomputable def ascB:Int->List (Int×Str)->Bool
 |_,[]=>true
 |lo,x::xs=>decide (lo<x.1)&&decide (x.1<2^32)&&ascB x.1 xs
theorem asc_of:∀{lo:Int} {xs:List (Int×Str)},ascB lo xs=true->Asc lo xs
 |_,[],_=>trivial
 |lo,x::xs,h=>by
  have h1:=Bool.and_eq_true_iff.mp (Bool.and_eq_true_iff.mp h).1
  exact⟨of_decide_eq_true h1.1,of_decide_eq_true h1.2,asc_of (Bool.and_eq_true_iff.mp h).2⟩
noncomputable def insN:Nat->BT->Nat->Nat->List (Int×Str)->BT
 |0,T,_,_,_=>T
 |n+1,T,a,k,xs=>insN n (T.ins a (dObj (entL k (xs.take 17)) 17)) (a+1) (k+51) (xs.drop 17)
theorem insN_s (n:Nat)(T:BT)(a k:Nat)(xs:List (Int×Str)):insN (n+1) T a k xs=insN n (T.ins a (dObj (entL k (xs.take 17)) 17)) (a+1) (k+51) (xs.drop 17):=rfl
noncomputable def insOk:Nat->BT->Nat->Nat->List (Int×Str)->Bool
 |0,_,_,_,_=>true
 |n+1,T,a,k,xs=>((T.ins a (dObj (entL k (xs.take 17)) 17)).get a).isSome&&insOk n (T.ins a (dObj (entL k (xs.take 17)) 17)) (a+1) (k+51) (xs.drop 17)
theorem pushN_abs {life:Life}:∀(n:Nat) (T:BT) (a k:Nat) (xs:List (Int×Str)),insOk n T a k xs=true->pushN n (absHeap T a life) k xs=absHeap (insN n T a k xs) (a+n) life
 |0,_,_,_,_,_=>rfl
 |n+1,T,a,k,xs,h=>by
  obtain⟨h1,h2⟩:=Bool.and_eq_true_iff.mp h
  rw[pushN_s,insN_s, <-absHeap_ins h1,pushN_abs n _ _ _ _ h2,show a+1+n=a+(n+1) by omega]
noncomputable abbrev tabXs:List (Int×Str):=dataOf tabKeys tabVals
theorem tab_shape:shapeOk tabKeys tabVals=true:=by kernel_rfl
theorem tab_asc:ascB (-1) tabXs=true:=by kernel_rfl
theorem tab_len:tabXs.length=17*(37+1)+4:=by kernel_rfl
theorem tab_st:hL2=[.Assign tabTg (.Dict tabKeys tabVals tabP) tabP0]:=by kernel_rfl
noncomputable def restD (ts:List Expr)(ks:List (Option Expr))(vs:List Expr)(p:Pos)(env:Env)(v:Value):Sem Flow:=do assignStores env v (<-swappedStores ts (.Dict ks vs p) env) ((assignEach ts env).map (·.2))
theorem exec_dict {ts:List Expr}{ks:List (Option Expr)}{vs:List Expr}{p p0:Pos}{env:Env}(h:swapsWithSole ts (.Dict ks vs p) p0.line env=(pure false:Sem Bool)):exec (.Assign ts (.Dict ks vs p) p0) env=((standAt p0>>=fun _=>standAt p>>=fun _=>dictDisplay (itemsOf ks vs p env))>>=restD ts ks vs p env):=by
 have e:exec (.Assign ts (.Dict ks vs p) p0) env=(standAt p0>>=fun _=>swapsWithSole ts (.Dict ks vs p) p0.line env>>=fun b=>if b=true then(do
   evalThenUse (.Dict ks vs p) env fun v=>assignAll v ((assignEach ts env).map (·.2))
   pure .next) else(do
   let v<-eval (.Dict ks vs p) env
   assignStores env v (<-swappedStores ts (.Dict ks vs p) env) ((assignEach ts env).map (·.2)))):=by kernel_rfl
 rw[e,h,eval_dict]
 rfl
theorem tab_swaps:swapsWithSole tabTg (.Dict tabKeys tabVals tabP) tabP0.line hEnv=(pure false:Sem Bool):=by kernel_rfl
end Uc
end
section
namespace Uc
noncomputable abbrev tabK1:Nat:=323+51*(37+1)
noncomputable def tabMain:Obj:=dObj (entL 323 (tabXs.take (17*(37+1)))++entS tabK1 (tabXs.drop (17*(37+1)))) (17*(37+1)+4)
noncomputable def tabLast:Obj:=dObj (entS tabK1 (tabXs.drop (17*(37+1)))) 4
theorem tab_ok1 (P:Params):(((hT1 P).ins 82 tabMain).get 82).isSome=true:=by kernel_rfl
theorem tab_ok2 (P:Params):insOk 37 ((hT1 P).ins 82 tabMain) 83 (323+51) (tabXs.drop 17)=true:=by kernel_rfl
theorem tab_ok3 (P:Params):(((insN 37 ((hT1 P).ins 82 tabMain) 83 (323+51) (tabXs.drop 17)).ins 120 tabLast).get 120).isSome=true:=by kernel_rfl
theorem tab_tree (P:Params):(insN 37 ((hT1 P).ins 82 tabMain) 83 (323+51) (tabXs.drop 17)).ins 120 tabLast=hTd P:=by kernel_rfl
noncomputable def hSd (w:World)(os:OsState):SharedT:=⟨hTd w.params,121,hLife w.params,#[],boot_drawn,2273,os⟩
theorem tab_value (w:World)(os:OsState)(q:Pos):Ru w #[] boot_drawn os (standAt tabP0>>=fun _=>standAt tabP>>=fun _=>dictDisplay (itemsOf tabKeys tabVals tabP hEnv)) (absHeap (hT1 w.params) 82 (hLife w.params)) 323 q 12517 (.ref 82) (absHeap (hTd w.params) 121 (hLife w.params)) 2273 tabP:=by
 obtain⟨ps,e,hp⟩:=items_of (pos:=tabP) (env:=hEnv) tabKeys tabVals tab_shape
 have hs:(absHeap (hT1 w.params) 82 (hLife w.params)).objs.size=82:=absHeap_size ..
 have r:=ru_display (w:=w) (gens:=#[]) (drawn:=boot_drawn) (os:=os) (h:=absHeap (hT1 w.params) 82 (hLife w.params)) (k:=323) (N:=37) (m:=4) hp tab_len (by decide) (by decide) (asc_of tab_asc) (by rw[tab_len];decide) (by rw[hs];decide)
 have h1:(absHeap (hT1 w.params) 82 (hLife w.params)).push tabMain=absHeap ((hT1 w.params).ins 82 tabMain) 83 (hLife w.params):=(absHeap_ins (tab_ok1 _)).symm
 have h2:=pushN_abs (life:=hLife w.params) 37 ((hT1 w.params).ins 82 tabMain) 83 (323+51) (tabXs.drop 17) (tab_ok2 _)
 have h3:(absHeap (insN 37 ((hT1 w.params).ins 82 tabMain) 83 (323+51) (tabXs.drop 17)) 120 (hLife w.params)).push tabLast=absHeap (hTd w.params) 121 (hLife w.params):=by
  rw[<-absHeap_ins (tab_ok3 _),tab_tree]
 have hH:((pushN 37 ((absHeap (hT1 w.params) 82 (hLife w.params)).push tabMain) (323+51) (tabXs.drop 17)).push tabLast)=absHeap (hTd w.params) 121 (hLife w.params):=by
  rw[h1,h2];exact h3
 rw[hs, <-e] at r
 have r':Ru w #[] boot_drawn os (dictDisplay (itemsOf tabKeys tabVals tabP hEnv)) (absHeap (hT1 w.params) 82 (hLife w.params)) 323 tabP 12515 (.ref 82) (absHeap (hTd w.params) 121 (hLife w.params)) 2273 tabP:=by
  rw[<-hH];exact r
 exact Ru.bind (n:=1) (m:=12516) Ru.standAt (Ru.bind (n:=1) (m:=12515) Ru.standAt r')
theorem tab_tail (w:World):(fun os=>PySem.W.Fast.tw10110043849684766642 PySem.W.Fast.tw14364793385576792824 Challenge.pw_uc0057_01 w 11 hAnn 1 8 (hSd w os) ⟨(restD tabTg tabKeys tabVals tabP hEnv (.ref 82)).wrap (fun f=>match f with| .next=>(execs [] hEnv).wrap doneF deadEnd id id|f=>doneF f) deadEnd id id,hCode,tabP,[topFrame hFp]⟩)=fun os=>some (.next,hS2 w os,hCode,⟨52,0,52,13⟩):=by kernel_rfl
theorem hG2 (w:World)(os:OsState):segRun treeTable Challenge.pw_uc0057_01 w 11 hAnn 1 12525 (hS1 w os).abs ⟨(execs hL2 hEnv).wrap doneF deadEnd id id,hCode,⟨50,0,51,30⟩,[topFrame hFp]⟩=some (.next,(hS2 w os).abs,hCode,⟨52,0,52,13⟩):=by
 rw[tab_st,execs_cons_wrap,exec_dict tab_swaps,Sem.bind_eq_wrap',Sem.wrap_wrap]
 refine seg_go (n:=12517) (N:=8) (tab_value w os _ _ _ _ _) ?_
 have t:=congrFun (tab_tail w) os
 rw[<-PySem.W.Fast.te10110043849684766642, <-PySem.W.Fast.te14364793385576792824] at t
 exact segRun_of t
end Uc
end
section
namespace Uc
theorem hQ0 (w:World):(fun os=>PySem.W.Fast.tw10110043849684766642 PySem.W.Fast.tw14364793385576792824 Challenge.pw_uc0057_01 w 11 hAnn 1 371 (hSb w os) ⟨(PySem.W.Fast.tw12563942051412417395 hL0 hEnv).wrap doneF deadEnd id id,hCode,⟨0,0,0,0⟩,[topFrame hFp]⟩)=fun os=>some (.next,hS0 w os,hCode,⟨48,0,48,8⟩):=by kernel_rfl
theorem hG0 (w:World)(os:OsState):segRun treeTable Challenge.pw_uc0057_01 w 11 hAnn 1 371 (hSb w os).abs ⟨(execs hL0 hEnv).wrap doneF deadEnd id id,hCode,⟨0,0,0,0⟩,[topFrame hFp]⟩=some (.next,(hS0 w os).abs,hCode,⟨48,0,48,8⟩):=by
 have t:(fun os=>PySem.W.Fast.tw10110043849684766642 PySem.W.Fast.tw14364793385576792824 Challenge.pw_uc0057_01 w 11 hAnn 1 371 (hSb w os) ⟨(PySem.W.Fast.tw12563942051412417395 hL0 hEnv).wrap doneF deadEnd id id,hCode,⟨0,0,0,0⟩,[topFrame hFp]⟩) os=some (.next,hS0 w os,hCode,⟨48,0,48,8⟩):=congrFun (hQ0 w) os
 rw[<-@PySem.W.Fast.te10110043849684766642, <-@PySem.W.Fast.te14364793385576792824, <-@PySem.W.Fast.te12563942051412417395] at t
 exact segRun_of t
noncomputable def hP1 (w:World):Prop:=(fun os=>PySem.W.Fast.tw10110043849684766642 PySem.W.Fast.tw14364793385576792824 Challenge.pw_uc0057_01 w 11 hAnn 1 1028 (hS0 w os) ⟨(PySem.W.Fast.tw12563942051412417395 hL1 hEnv).wrap doneF deadEnd id id,hCode,⟨48,0,48,8⟩,[topFrame hFp]⟩)=fun os=>some (.next,hS1 w os,hCode,⟨50,0,51,30⟩)
theorem hP1ff (w:World):hP1 ((w.withFollow "special-get-raises" false).withFollow "set-order" false):=by unfold hP1;kernel_rfl
theorem hP1ft (w:World):hP1 ((w.withFollow "special-get-raises" true).withFollow "set-order" false):=by unfold hP1;kernel_rfl
theorem hP1tf (w:World):hP1 ((w.withFollow "special-get-raises" false).withFollow "set-order" true):=by unfold hP1;kernel_rfl
theorem hP1tt (w:World):hP1 ((w.withFollow "special-get-raises" true).withFollow "set-order" true):=by unfold hP1;kernel_rfl
theorem hQ1 (w:World):hP1 w:=byRow2 "set-order" (P:=fun w=>hP1 w) (fun w=>byRow2 "special-get-raises" (P:=fun w=>hP1 (w.withFollow "set-order" false)) (fun w=>hP1ff w) (fun w=>hP1ft w) w) (fun w=>byRow2 "special-get-raises" (P:=fun w=>hP1 (w.withFollow "set-order" true)) (fun w=>hP1tf w) (fun w=>hP1tt w) w) w
theorem hG1 (w:World)(os:OsState):segRun treeTable Challenge.pw_uc0057_01 w 11 hAnn 1 1028 (hS0 w os).abs ⟨(execs hL1 hEnv).wrap doneF deadEnd id id,hCode,⟨48,0,48,8⟩,[topFrame hFp]⟩=some (.next,(hS1 w os).abs,hCode,⟨50,0,51,30⟩):=by
 have t:(fun os=>PySem.W.Fast.tw10110043849684766642 PySem.W.Fast.tw14364793385576792824 Challenge.pw_uc0057_01 w 11 hAnn 1 1028 (hS0 w os) ⟨(PySem.W.Fast.tw12563942051412417395 hL1 hEnv).wrap doneF deadEnd id id,hCode,⟨48,0,48,8⟩,[topFrame hFp]⟩) os=some (.next,hS1 w os,hCode,⟨50,0,51,30⟩):=congrFun (hQ1 w) os
 rw[<-@PySem.W.Fast.te10110043849684766642, <-@PySem.W.Fast.te14364793385576792824, <-@PySem.W.Fast.te12563942051412417395] at t
 exact segRun_of t
noncomputable def hP3 (w:World):Prop:=(fun os=>PySem.W.Fast.tw10110043849684766642 PySem.W.Fast.tw14364793385576792824 Challenge.pw_uc0057_01 w 11 hAnn 1 830 (hS2 w os) ⟨(PySem.W.Fast.tw12563942051412417395 hL3 hEnv).wrap doneF deadEnd id id,hCode,⟨52,0,52,13⟩,[topFrame hFp]⟩)=fun os=>some (.next,hS3 w os,hCode,⟨189,0,245,47⟩)
theorem hP3f (w:World):hP3 (w.withFollow "special-get-raises" false):=by unfold hP3;kernel_rfl
theorem hP3t (w:World):hP3 (w.withFollow "special-get-raises" true):=by unfold hP3;kernel_rfl
theorem hQ3 (w:World):hP3 w:=byRow2 "special-get-raises" (P:=fun w=>hP3 w) (fun w=>hP3f w) (fun w=>hP3t w) w
theorem hG3 (w:World)(os:OsState):segRun treeTable Challenge.pw_uc0057_01 w 11 hAnn 1 830 (hS2 w os).abs ⟨(execs hL3 hEnv).wrap doneF deadEnd id id,hCode,⟨52,0,52,13⟩,[topFrame hFp]⟩=some (.next,(hS3 w os).abs,hCode,⟨189,0,245,47⟩):=by
 have t:(fun os=>PySem.W.Fast.tw10110043849684766642 PySem.W.Fast.tw14364793385576792824 Challenge.pw_uc0057_01 w 11 hAnn 1 830 (hS2 w os) ⟨(PySem.W.Fast.tw12563942051412417395 hL3 hEnv).wrap doneF deadEnd id id,hCode,⟨52,0,52,13⟩,[topFrame hFp]⟩) os=some (.next,hS3 w os,hCode,⟨189,0,245,47⟩):=congrFun (hQ3 w) os
 rw[<-@PySem.W.Fast.te10110043849684766642, <-@PySem.W.Fast.te14364793385576792824, <-@PySem.W.Fast.te12563942051412417395] at t
 exact segRun_of t
theorem hOpening:opening Challenge.pw_uc0057_01=plainProg Challenge.pw_uc0057_01.main.scope.names:=by rfl
theorem hFence:∀s,fenceModules? Challenge.pw_uc0057_01 s=some s:=fun s=>by rfl
theorem hOpen:∀w:World,(fencedOpening treeTable Challenge.pw_uc0057_01 w 40000).map (fun s=>(s.heap,s.gens,s.drawn,s.toks))=some (boot_heap w.params,Array.mk [],boot_drawn,boot_toks):=boot_open hOpening (by decide) hFence
theorem hSize (w:World):(((boot_heap w.params).isNs mainGlobals&&(Array.mk []:Array GenState).size==0,(boot_heap w.params).objs.size,(boot_heap w.params).nsMap mainGlobals "__annotations__"):Bool×Nat×Option Value)=(true,11,hAnn):=by kernel_rfl
theorem hPre (w:World):(fun os=>PySem.W.Fast.tw15667345088766844465 PySem.W.Fast.tw14364793385576792824 Challenge.pw_uc0057_01 w 11 hAnn 12 ⟨boot_heap w.params,Array.mk [],boot_drawn,boot_toks,os⟩ (topStub Challenge.pw_uc0057_01))=fun os=>some ((hSa w os).abs,⟨PySem.W.Fast.tw11892475500146522536 PySem.W.Fast.tw14364793385576792824 hCode,hCode,⟨0,0,0,0⟩,[topFrame hFp]⟩):=by kernel_rfl
theorem hBlock (w:World):(fun os=>segRun treeTable Challenge.pw_uc0057_01 w 11 hAnn 1 1 (hSa w os).abs (blockOf (behindTheImports Challenge.pw_uc0057_01) hEnv hCode ⟨0,0,0,0⟩ [topFrame hFp]))=fun os=>some (.next,(hSb w os).abs,hCode,⟨0,0,0,0⟩):=by kernel_rfl
noncomputable def hH (P:Params):Heap:=absHeap (hT3 P) 245 (hLife P)
noncomputable abbrev hFinS (w:World)(os:OsState):Shared:=⟨hH w.params,#[],boot_drawn,2461,os⟩
theorem hFin (w:World):(fun os=>topRun treeTable Challenge.pw_uc0057_01 w 11 hAnn 2 (hS3 w os).abs ⟨doneF .next,hCode,⟨189,0,245,47⟩,[topFrame hFp]⟩)=fun os=>some (hFinS w os):=by kernel_rfl
theorem hBody:behindTheImports Challenge.pw_uc0057_01=(hL0++(hL1++(hL2++(hL3++[])))):=by kernel_rfl
theorem hRun (w:World)(os:OsState):topRun treeTable Challenge.pw_uc0057_01 w 11 hAnn (12+(1+(371+(1028+(12525+(830+2)))))) ⟨boot_heap w.params,Array.mk [],boot_drawn,boot_toks,os⟩ (topStub Challenge.pw_uc0057_01)=some (hFinS w os):=by
 have hp:=congrFun (hPre w) os
 rw[<-@PySem.W.Fast.te15667345088766844465, <-@PySem.W.Fast.te14364793385576792824, <-@PySem.W.Fast.te11892475500146522536] at hp
 refine go_top hp (piece_block (congrFun (hBlock w) os) ?_)
 rw[hBody]
 refine piece_app (hG0 w os) ?_
 refine piece_app (hG1 w os) ?_
 refine piece_app (hG2 w os) ?_
 refine piece_app (hG3 w os) ?_
 exact piece_nil (congrFun (hFin w) os)
theorem hLk1 (w:World):staticsOk (importedModules Challenge.pw_uc0057_01.main.body) (boot_heap w.params) (hH w.params)=true:=by kernel_rfl
theorem hLk2 (w:World):namesBound Challenge.pw_uc0057_01 (hH w.params)=true:=by kernel_rfl
theorem hLk4 (w:World):laidKept (boot_heap w.params) (hH w.params)=true:=by kernel_rfl
theorem hLk5 (w:World):(fun os=>openSeen qv qLoose (importedModules Challenge.pw_uc0057_01.main.body) (fun s=>xlAt qv [] s&&recOk (RowW.records rowC.toRowW) s) true (hFinS w os))=fun _=>openGood qv qLoose:=by kernel_rfl
theorem hLk6 (w:World):(fun os=>hook.obs (hFinS w os))=fun _=>hook.val w:=by kernel_rfl
set_option tactic.hygienic true in
theorem hHead:LeftO Challenge.pw_uc0057_01 qv qLoose (fun s=>xlAt qv [] s&&recOk (RowW.records rowC.toRowW) s) hook.obs hook.val 40000:=by
 refine LeftO.of_pieces hOpen hSize hRun (by decide) (fun w=>funext fun os=>?_)
 have h1:(staticsOk (importedModules Challenge.pw_uc0057_01.main.body) (boot_heap w.params) (hH w.params)&&namesBound Challenge.pw_uc0057_01 (hH w.params)&&gensDone (hFinS w os)&&laidKept (boot_heap w.params) (hH w.params))=true:=by
  rw[hLk1,hLk2,hLk4];rfl
 have h2:=congrFun (hLk5 w) os
 have h3:=congrFun (hLk6 w) os
 exact Prod.ext h1 (Prod.ext h2 h3)
end Uc
end
theorem PySem.Challenge.cw_uc0057_01_holds : PySem.Challenge.rw_uc0057_01.Holds :=
  Uc.head_of Uc.hHead

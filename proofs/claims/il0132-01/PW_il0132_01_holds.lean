import PyProof.Rows.All
import Wide.All
import OpenK.AllK
import Wide.FinOn
import PyProof.GenComp
import PyProof.GenQ
import PyProof.ListNew
import PySem.Challenge.RW_il0132_01
open PySem PySem.W PyProof.Rows PySem.Calls
set_option Elab.async false
set_option maxRecDepth 100000
set_option maxHeartbeats 8000000
set_option compiler.extract_closed false
namespace Mine

noncomputable def fnParts : Option Stmt → Option (Arguments × List Stmt × Scope)
  | some (.FunctionDef _ a b _ _ _ c _ _ _) => some (a, b, c)
  | _ => none
noncomputable def inCls : Option Stmt → Nat → Option Stmt
  | some (.ClassDef _ _ _ b _ _ _ _ _ _ _), i => (b.drop i).head?
  | _, _ => none
noncomputable def at2 (i : Nat) : Option Stmt := (PySem.Challenge.pw_il0132_01.main.body.drop i).head?
noncomputable def docIn : List Stmt → Option Str
  | .Expr (.Constant (.str x) _ _) _ :: _ => some x
  | _ => none
namespace hd
noncomputable def view_39 : Program := { PySem.Challenge.pw_il0132_01 with main := { PySem.Challenge.pw_il0132_01.main with body := PySem.Challenge.pw_il0132_01.main.body.drop 12 } }
noncomputable def loose : List Str := [Str.ofString "_wall", Str.ofString "restore", Str.ofString "_tuplegetter", Str.ofString "unorderable_list_difference", Str.ofString "Mismatch", Str.ofString "_Mismatch", Str.ofString "_count_diff_all_purpose", Str.ofString "_law_beyond", Str.ofString "_law_pair"]
noncomputable def heap_39 : Params → Frag := (fun (a28 : Arguments) (b28 : List Stmt) (c28 : Scope) (_ : fnParts (at2 2) = some (a28, b28, c28)) (d28 : Str) (_ : docIn b28 = some d28) (a78 : Arguments) (b78 : List Stmt) (c78 : Scope) (_ : fnParts (at2 5) = some (a78, b78, c78)) (d78 : Str) (_ : docIn b78 = some d78) (a96 : Arguments) (b96 : List Stmt) (c96 : Scope) (_ : fnParts (inCls (at2 6) 4) = some (a96, b96, c96)) (d96 : Str) (_ : docIn b96 = some d96) (a159 : Arguments) (b159 : List Stmt) (c159 : Scope) (_ : fnParts (at2 8) = some (a159, b159, c159)) (d159 : Str) (_ : docIn b159 = some d159) (a164 : Arguments) (b164 : List Stmt) (c164 : Scope) (_ : fnParts (at2 10) = some (a164, b164, c164)) (a169 : Arguments) (b169 : List Stmt) (c169 : Scope) (_ : fnParts (at2 11) = some (a169, b169, c169)) (a174 : Arguments) (b174 : List Stmt) (c174 : Scope) (_ : fnParts (at2 12) = some (a174, b174, c174)) => fun P => [
  (nat_lit 2, (@PySem.Obj.mk @PySem.Value.none (@Option.none _) (@PySem.Data.dict #[] (0:Nat)) #[])),
  (nat_lit 3, (@PySem.Obj.mk (@PySem.Value.type "dict") (@Option.none _) (@PySem.Data.dict #[(@PySem.DictEntry.mk (@PySem.PyData.keyHash P (Str.ofString "__name__")) (@PySem.Value.str (Str.ofString "__name__") (165:Nat)) (@PySem.Value.str (Str.ofString "law_il0132_01") (429:Nat))), (@PySem.DictEntry.mk (@PySem.PyData.keyHash P (Str.ofString "__doc__")) (@PySem.Value.str (Str.ofString "__doc__") (166:Nat)) @PySem.Value.none), (@PySem.DictEntry.mk (@PySem.PyData.keyHash P (Str.ofString "__package__")) (@PySem.Value.str (Str.ofString "__package__") (167:Nat)) @PySem.Value.none), (@PySem.DictEntry.mk (@PySem.PyData.keyHash P (Str.ofString "__loader__")) (@PySem.Value.str (Str.ofString "__loader__") (168:Nat)) (@PySem.Value.builtin "__main__.__loader__#opaque")), (@PySem.DictEntry.mk (@PySem.PyData.keyHash P (Str.ofString "__spec__")) (@PySem.Value.str (Str.ofString "__spec__") (169:Nat)) @PySem.Value.none), (@PySem.DictEntry.mk (@PySem.PyData.keyHash P (Str.ofString "__annotations__")) (@PySem.Value.str (Str.ofString "__annotations__") (170:Nat)) (@PySem.Value.ref (6:Nat))), (@PySem.DictEntry.mk (@PySem.PyData.keyHash P (Str.ofString "__builtins__")) (@PySem.Value.str (Str.ofString "__builtins__") (171:Nat)) (@PySem.Value.ref (4:Nat))), (@PySem.DictEntry.mk (@PySem.PyData.keyHash P (Str.ofString "__file__")) (@PySem.Value.str (Str.ofString "__file__") (173:Nat)) (@PySem.Value.str (Str.ofString "/claim/cut.py") (172:Nat))), (@PySem.DictEntry.mk (@PySem.PyData.keyHash P (Str.ofString "__cached__")) (@PySem.Value.str (Str.ofString "__cached__") (174:Nat)) @PySem.Value.none), (@PySem.DictEntry.mk (@PySem.PyData.keyHash P (Str.ofString "_wall")) (@PySem.Value.str (Str.ofString "_wall") (193:Nat)) (@PySem.Value.ref (21:Nat))), (@PySem.DictEntry.mk (@PySem.PyData.keyHash P (Str.ofString "restore")) (@PySem.Value.str (Str.ofString "restore") (207:Nat)) (@PySem.Value.ref (28:Nat))), (@PySem.DictEntry.mk (@PySem.PyData.keyHash P (Str.ofString "_tuplegetter")) (@PySem.Value.str (Str.ofString "_tuplegetter") (266:Nat)) (@PySem.Value.ref (67:Nat))), (@PySem.DictEntry.mk (@PySem.PyData.keyHash P (Str.ofString "unorderable_list_difference")) (@PySem.Value.str (Str.ofString "unorderable_list_difference") (277:Nat)) (@PySem.Value.ref (78:Nat))), (@PySem.DictEntry.mk (@PySem.PyData.keyHash P (Str.ofString "Mismatch")) (@PySem.Value.str (Str.ofString "Mismatch") (405:Nat)) (@PySem.Value.ref (149:Nat))), (@PySem.DictEntry.mk (@PySem.PyData.keyHash P (Str.ofString "_Mismatch")) (@PySem.Value.str (Str.ofString "_Mismatch") (406:Nat)) (@PySem.Value.ref (149:Nat))), (@PySem.DictEntry.mk (@PySem.PyData.keyHash P (Str.ofString "_count_diff_all_purpose")) (@PySem.Value.str (Str.ofString "_count_diff_all_purpose") (428:Nat)) (@PySem.Value.ref (159:Nat))), (@PySem.DictEntry.mk (@PySem.PyData.keyHash P (Str.ofString "_law_beyond")) (@PySem.Value.str (Str.ofString "_law_beyond") (436:Nat)) (@PySem.Value.ref (164:Nat))), (@PySem.DictEntry.mk (@PySem.PyData.keyHash P (Str.ofString "_law_pair")) (@PySem.Value.str (Str.ofString "_law_pair") (442:Nat)) (@PySem.Value.ref (169:Nat))), (@PySem.DictEntry.mk (@PySem.PyData.keyHash P (Str.ofString "law")) (@PySem.Value.str (Str.ofString "law") (448:Nat)) (@PySem.Value.ref (174:Nat)))] (19:Nat)) #[])),
  (nat_lit 27, (@PySem.Obj.mk (@PySem.Value.type "code") (@Option.none _) (@PySem.Data.fields #[(@PySem.Value.str (Str.ofString "restore") (196:Nat)), (@PySem.Value.str (Str.ofString "restore") (197:Nat)), (@PySem.Value.str (Str.ofString "/claim/cut.py") (198:Nat)), (@PySem.Value.int (5:Int) (0:Nat)), (@PySem.Value.int (2:Int) (0:Nat)), (@PySem.Value.int (0:Int) (0:Nat)), (@PySem.Value.int (0:Int) (0:Nat)), (@PySem.Value.int (35:Int) (0:Nat)), (@PySem.Value.ref (22:Nat)), (@PySem.Value.bool @Bool.true), (@PySem.Value.int (181:Int) (0:Nat)), (@PySem.Value.ref (23:Nat)), @PySem.Value.none, (@PySem.Value.ref (24:Nat)), (@PySem.Value.ref (25:Nat)), (@PySem.Value.ref (26:Nat)), (@PySem.Value.int (204:Int) (0:Nat)), (@PySem.Value.int (5:Int) (0:Nat)), (@PySem.Value.str (Str.ofString "/claim/cut.py") (205:Nat))]) #[])),
  (nat_lit 28, @Obj.mk (@PySem.Value.type "function") (@Option.none _) (@Data.func (@FuncData.mk (Str.ofString "restore") (Str.ofString "restore") a28 (@FuncBody.stmts b28) c28 (3:Nat) [] @PySem.Value.none @PySem.Value.none (@Value.str d28 (206:Nat)) (@PySem.Value.str (Str.ofString "cpy313.difflib") (194:Nat)) (@Option.none _) (@PySem.Value.ref (27:Nat)) @PySem.Value.none (0:Nat))) #[]),
  (nat_lit 77, (@PySem.Obj.mk (@PySem.Value.type "code") (@Option.none _) (@PySem.Data.fields #[(@PySem.Value.str (Str.ofString "unorderable_list_difference") (267:Nat)), (@PySem.Value.str (Str.ofString "unorderable_list_difference") (268:Nat)), (@PySem.Value.str (Str.ofString "/claim/cut.py") (269:Nat)), (@PySem.Value.int (54:Int) (0:Nat)), (@PySem.Value.int (2:Int) (0:Nat)), (@PySem.Value.int (0:Int) (0:Nat)), (@PySem.Value.int (0:Int) (0:Nat)), (@PySem.Value.int (3:Int) (0:Nat)), (@PySem.Value.ref (72:Nat)), (@PySem.Value.bool @Bool.true), (@PySem.Value.int (181:Int) (0:Nat)), (@PySem.Value.ref (73:Nat)), @PySem.Value.none, (@PySem.Value.ref (74:Nat)), (@PySem.Value.ref (75:Nat)), (@PySem.Value.ref (76:Nat)), (@PySem.Value.int (274:Int) (0:Nat)), (@PySem.Value.int (54:Int) (0:Nat)), (@PySem.Value.str (Str.ofString "/claim/cut.py") (275:Nat))]) #[])),
  (nat_lit 78, @Obj.mk (@PySem.Value.type "function") (@Option.none _) (@Data.func (@FuncData.mk (Str.ofString "unorderable_list_difference") (Str.ofString "unorderable_list_difference") a78 (@FuncBody.stmts b78) c78 (3:Nat) [] @PySem.Value.none @PySem.Value.none (@Value.str d78 (276:Nat)) (@PySem.Value.str (Str.ofString "cpy313.unittest.util") (208:Nat)) (@Option.none _) (@PySem.Value.ref (77:Nat)) @PySem.Value.none (0:Nat))) #[]),
  (nat_lit 79, (@PySem.Obj.mk (@PySem.Value.type "tuple") (@Option.none _) (@PySem.Data.seq #[(@PySem.Value.type "tuple")] (0:Nat)) #[])),
  (nat_lit 95, (@PySem.Obj.mk (@PySem.Value.type "code") (@Option.none _) (@PySem.Data.fields #[(@PySem.Value.str (Str.ofString "__new__") (299:Nat)), (@PySem.Value.str (Str.ofString "Mismatch.__new__") (300:Nat)), (@PySem.Value.str (Str.ofString "/claim/cut.py") (301:Nat)), (@PySem.Value.int (74:Int) (0:Nat)), (@PySem.Value.int (4:Int) (0:Nat)), (@PySem.Value.int (0:Int) (0:Nat)), (@PySem.Value.int (0:Int) (0:Nat)), (@PySem.Value.int (3:Int) (0:Nat)), (@PySem.Value.ref (90:Nat)), (@PySem.Value.bool @Bool.true), (@PySem.Value.int (181:Int) (0:Nat)), (@PySem.Value.ref (91:Nat)), @PySem.Value.none, (@PySem.Value.ref (92:Nat)), (@PySem.Value.ref (93:Nat)), (@PySem.Value.ref (94:Nat)), (@PySem.Value.int (306:Int) (0:Nat)), (@PySem.Value.int (74:Int) (0:Nat)), (@PySem.Value.str (Str.ofString "/claim/cut.py") (307:Nat))]) #[])),
  (nat_lit 96, @Obj.mk (@PySem.Value.type "function") (@Option.none _) (@Data.func (@FuncData.mk (Str.ofString "__new__") (Str.ofString "Mismatch.__new__") a96 (@FuncBody.stmts b96) c96 (3:Nat) [] @PySem.Value.none @PySem.Value.none (@Value.str d96 (308:Nat)) (@PySem.Value.str (Str.ofString "cpy313.unittest.util") (208:Nat)) (@Option.none _) (@PySem.Value.ref (95:Nat)) @PySem.Value.none (0:Nat))) #[]),
  (nat_lit 148, (@PySem.Obj.mk (@PySem.Value.type "dict") (@Option.none _) (@PySem.Data.dict #[(@PySem.DictEntry.mk (@PySem.PyData.keyHash P (Str.ofString "__module__")) (@PySem.Value.str (Str.ofString "__module__") (285:Nat)) (@PySem.Value.str (Str.ofString "cpy313.unittest.util") (208:Nat))), (@PySem.DictEntry.mk (@PySem.PyData.keyHash P (Str.ofString "__firstlineno__")) (@PySem.Value.str (Str.ofString "__firstlineno__") (289:Nat)) (@PySem.Value.int (68:Int) (288:Nat))), (@PySem.DictEntry.mk (@PySem.PyData.keyHash P (Str.ofString "__doc__")) (@PySem.Value.str (Str.ofString "__doc__") (291:Nat)) (@PySem.Value.str (Str.ofString "Mismatch(actual, expected, value)") (290:Nat))), (@PySem.DictEntry.mk (@PySem.PyData.keyHash P (Str.ofString "__slots__")) (@PySem.Value.str (Str.ofString "__slots__") (293:Nat)) (@PySem.Value.ref (87:Nat))), (@PySem.DictEntry.mk (@PySem.PyData.keyHash P (Str.ofString "_fields")) (@PySem.Value.str (Str.ofString "_fields") (297:Nat)) (@PySem.Value.ref (88:Nat))), (@PySem.DictEntry.mk (@PySem.PyData.keyHash P (Str.ofString "_field_defaults")) (@PySem.Value.str (Str.ofString "_field_defaults") (298:Nat)) (@PySem.Value.ref (89:Nat))), (@PySem.DictEntry.mk (@PySem.PyData.keyHash P (Str.ofString "__new__")) (@PySem.Value.str (Str.ofString "__new__") (309:Nat)) (@PySem.Value.ref (150:Nat))), (@PySem.DictEntry.mk (@PySem.PyData.keyHash P (Str.ofString "_make")) (@PySem.Value.str (Str.ofString "_make") (331:Nat)) (@PySem.Value.ref (105:Nat))), (@PySem.DictEntry.mk (@PySem.PyData.keyHash P (Str.ofString "_replace")) (@PySem.Value.str (Str.ofString "_replace") (342:Nat)) (@PySem.Value.ref (114:Nat))), (@PySem.DictEntry.mk (@PySem.PyData.keyHash P (Str.ofString "__replace__")) (@PySem.Value.str (Str.ofString "__replace__") (343:Nat)) (@PySem.Value.ref (114:Nat))), (@PySem.DictEntry.mk (@PySem.PyData.keyHash P (Str.ofString "__repr__")) (@PySem.Value.str (Str.ofString "__repr__") (351:Nat)) (@PySem.Value.ref (121:Nat))), (@PySem.DictEntry.mk (@PySem.PyData.keyHash P (Str.ofString "_asdict")) (@PySem.Value.str (Str.ofString "_asdict") (358:Nat)) (@PySem.Value.ref (128:Nat))), (@PySem.DictEntry.mk (@PySem.PyData.keyHash P (Str.ofString "__getnewargs__")) (@PySem.Value.str (Str.ofString "__getnewargs__") (366:Nat)) (@PySem.Value.ref (135:Nat))), (@PySem.DictEntry.mk (@PySem.PyData.keyHash P (Str.ofString "__match_args__")) (@PySem.Value.str (Str.ofString "__match_args__") (370:Nat)) (@PySem.Value.ref (136:Nat))), (@PySem.DictEntry.mk (@PySem.PyData.keyHash P (Str.ofString "actual")) (@PySem.Value.str (Str.ofString "actual") (380:Nat)) (@PySem.Value.ref (138:Nat))), (@PySem.DictEntry.mk (@PySem.PyData.keyHash P (Str.ofString "expected")) (@PySem.Value.str (Str.ofString "expected") (390:Nat)) (@PySem.Value.ref (141:Nat))), (@PySem.DictEntry.mk (@PySem.PyData.keyHash P (Str.ofString "value")) (@PySem.Value.str (Str.ofString "value") (400:Nat)) (@PySem.Value.ref (144:Nat))), (@PySem.DictEntry.mk (@PySem.PyData.keyHash P (Str.ofString "__static_attributes__")) (@PySem.Value.str (Str.ofString "__static_attributes__") (401:Nat)) (@PySem.Value.ref (146:Nat)))] (2:Nat)) #[])),
  (nat_lit 149, (@PySem.Obj.mk (@PySem.Value.type "type") (@Option.none _) (@PySem.Data.cls (@PySem.ClassData.mk (Str.ofString "Mismatch") [(@PySem.Value.type "tuple")] [(@PySem.Value.ref (149:Nat)), (@PySem.Value.type "tuple"), (@PySem.Value.type "object")] (148:Nat) (Str.ofString "Mismatch") @Bool.false [] [] @Bool.false (@Option.none _) @Bool.false)) #[(@Option.some _ (@PySem.Value.ref (79:Nat))), (@Option.none _), (@Option.some _ (@PySem.Value.str (Str.ofString "Mismatch") (278:Nat))), (@Option.some _ (@PySem.Value.str (Str.ofString "Mismatch") (286:Nat))), (@Option.some _ @PySem.Value.none), (@Option.some _ (@PySem.Value.bool @Bool.false))])),
  (nat_lit 150, (@PySem.Obj.mk (@PySem.Value.type "staticmethod") (@Option.none _) (@PySem.Data.fields #[(@PySem.Value.ref (96:Nat))]) #[])),
  (nat_lit 158, (@PySem.Obj.mk (@PySem.Value.type "code") (@Option.none _) (@PySem.Data.fields #[(@PySem.Value.str (Str.ofString "_count_diff_all_purpose") (407:Nat)), (@PySem.Value.str (Str.ofString "_count_diff_all_purpose") (408:Nat)), (@PySem.Value.str (Str.ofString "/claim/cut.py") (409:Nat)), (@PySem.Value.int (112:Int) (0:Nat)), (@PySem.Value.int (2:Int) (0:Nat)), (@PySem.Value.int (0:Int) (0:Nat)), (@PySem.Value.int (0:Int) (0:Nat)), (@PySem.Value.int (3:Int) (0:Nat)), (@PySem.Value.ref (153:Nat)), (@PySem.Value.bool @Bool.true), (@PySem.Value.int (181:Int) (0:Nat)), (@PySem.Value.ref (154:Nat)), @PySem.Value.none, (@PySem.Value.ref (155:Nat)), (@PySem.Value.ref (156:Nat)), (@PySem.Value.ref (157:Nat)), (@PySem.Value.int (425:Int) (0:Nat)), (@PySem.Value.int (112:Int) (0:Nat)), (@PySem.Value.str (Str.ofString "/claim/cut.py") (426:Nat))]) #[])),
  (nat_lit 159, @Obj.mk (@PySem.Value.type "function") (@Option.none _) (@Data.func (@FuncData.mk (Str.ofString "_count_diff_all_purpose") (Str.ofString "_count_diff_all_purpose") a159 (@FuncBody.stmts b159) c159 (3:Nat) [] @PySem.Value.none @PySem.Value.none (@Value.str d159 (427:Nat)) (@PySem.Value.str (Str.ofString "cpy313.unittest.util") (208:Nat)) (@Option.none _) (@PySem.Value.ref (158:Nat)) @PySem.Value.none (0:Nat))) #[]),
  (nat_lit 163, (@PySem.Obj.mk (@PySem.Value.type "code") (@Option.none _) (@PySem.Data.fields #[(@PySem.Value.str (Str.ofString "_law_beyond") (431:Nat)), (@PySem.Value.str (Str.ofString "_law_beyond") (432:Nat)), (@PySem.Value.str (Str.ofString "/claim/cut.py") (433:Nat)), (@PySem.Value.int (145:Int) (0:Nat)), (@PySem.Value.int (2:Int) (0:Nat)), (@PySem.Value.int (0:Int) (0:Nat)), (@PySem.Value.int (0:Int) (0:Nat)), (@PySem.Value.int (3:Int) (0:Nat)), (@PySem.Value.ref (160:Nat)), (@PySem.Value.bool @Bool.true), (@PySem.Value.int (181:Int) (0:Nat)), (@PySem.Value.ref (161:Nat)), @PySem.Value.none, @PySem.Value.none, @PySem.Value.none, (@PySem.Value.ref (162:Nat)), (@PySem.Value.int (434:Int) (0:Nat)), (@PySem.Value.int (145:Int) (0:Nat)), (@PySem.Value.str (Str.ofString "/claim/cut.py") (435:Nat))]) #[])),
  (nat_lit 164, @Obj.mk (@PySem.Value.type "function") (@Option.none _) (@Data.func (@FuncData.mk (Str.ofString "_law_beyond") (Str.ofString "_law_beyond") a164 (@FuncBody.stmts b164) c164 (3:Nat) [] @PySem.Value.none @PySem.Value.none @PySem.Value.none (@PySem.Value.str (Str.ofString "law_il0132_01") (429:Nat)) (@Option.none _) (@PySem.Value.ref (163:Nat)) @PySem.Value.none (0:Nat))) #[]),
  (nat_lit 168, (@PySem.Obj.mk (@PySem.Value.type "code") (@Option.none _) (@PySem.Data.fields #[(@PySem.Value.str (Str.ofString "_law_pair") (437:Nat)), (@PySem.Value.str (Str.ofString "_law_pair") (438:Nat)), (@PySem.Value.str (Str.ofString "/claim/cut.py") (439:Nat)), (@PySem.Value.int (147:Int) (0:Nat)), (@PySem.Value.int (4:Int) (0:Nat)), (@PySem.Value.int (0:Int) (0:Nat)), (@PySem.Value.int (0:Int) (0:Nat)), (@PySem.Value.int (3:Int) (0:Nat)), (@PySem.Value.ref (165:Nat)), (@PySem.Value.bool @Bool.true), (@PySem.Value.int (181:Int) (0:Nat)), (@PySem.Value.ref (166:Nat)), @PySem.Value.none, @PySem.Value.none, @PySem.Value.none, (@PySem.Value.ref (167:Nat)), (@PySem.Value.int (440:Int) (0:Nat)), (@PySem.Value.int (147:Int) (0:Nat)), (@PySem.Value.str (Str.ofString "/claim/cut.py") (441:Nat))]) #[])),
  (nat_lit 169, @Obj.mk (@PySem.Value.type "function") (@Option.none _) (@Data.func (@FuncData.mk (Str.ofString "_law_pair") (Str.ofString "_law_pair") a169 (@FuncBody.stmts b169) c169 (3:Nat) [] @PySem.Value.none @PySem.Value.none @PySem.Value.none (@PySem.Value.str (Str.ofString "law_il0132_01") (429:Nat)) (@Option.none _) (@PySem.Value.ref (168:Nat)) @PySem.Value.none (0:Nat))) #[]),
  (nat_lit 173, (@PySem.Obj.mk (@PySem.Value.type "code") (@Option.none _) (@PySem.Data.fields #[(@PySem.Value.str (Str.ofString "law") (443:Nat)), (@PySem.Value.str (Str.ofString "law") (444:Nat)), (@PySem.Value.str (Str.ofString "/claim/cut.py") (445:Nat)), (@PySem.Value.int (158:Int) (0:Nat)), (@PySem.Value.int (1:Int) (0:Nat)), (@PySem.Value.int (0:Int) (0:Nat)), (@PySem.Value.int (0:Int) (0:Nat)), (@PySem.Value.int (3:Int) (0:Nat)), (@PySem.Value.ref (170:Nat)), (@PySem.Value.bool @Bool.true), (@PySem.Value.int (181:Int) (0:Nat)), (@PySem.Value.ref (171:Nat)), @PySem.Value.none, @PySem.Value.none, @PySem.Value.none, (@PySem.Value.ref (172:Nat)), (@PySem.Value.int (446:Int) (0:Nat)), (@PySem.Value.int (158:Int) (0:Nat)), (@PySem.Value.str (Str.ofString "/claim/cut.py") (447:Nat))]) #[])),
  (nat_lit 174, @Obj.mk (@PySem.Value.type "function") (@Option.none _) (@Data.func (@FuncData.mk (Str.ofString "law") (Str.ofString "law") a174 (@FuncBody.stmts b174) c174 (3:Nat) [] @PySem.Value.none @PySem.Value.none @PySem.Value.none (@PySem.Value.str (Str.ofString "law_il0132_01") (429:Nat)) (@Option.none _) (@PySem.Value.ref (173:Nat)) @PySem.Value.none (0:Nat))) #[])]) _ _ _ rfl _ rfl _ _ _ rfl _ rfl _ _ _ rfl _ rfl _ _ _ rfl _ rfl _ _ _ rfl _ _ _ rfl _ _ _ rfl
noncomputable def addrs : List Addr := [(nat_lit 2), (nat_lit 3), (nat_lit 27), (nat_lit 28), (nat_lit 77), (nat_lit 78), (nat_lit 79), (nat_lit 95), (nat_lit 96), (nat_lit 148), (nat_lit 149), (nat_lit 150), (nat_lit 158), (nat_lit 159), (nat_lit 163), (nat_lit 164), (nat_lit 168), (nat_lit 169), (nat_lit 173), (nat_lit 174)]
theorem keys : ∀ P, addrs = (heap_39 P).map (·.1) := fun _ => by kernel_rfl
theorem left : LeftO PySem.Challenge.rw_il0132_01.prog view_39 loose (fun s => xlAt view_39 [] s && recOk (RowW.records PySem.Challenge.rw_il0132_01.row.toRowW) s) (kHook heap_39 addrs keys).obs (kHook heap_39 addrs keys).val 3374 := fun w => by
  unfold openEnds fencedOpening topFrom
  rw [PySem.W.Fast.te14364793385576792824, PySem.W.Fast.te10274390034422433532, PySem.W.Fast.te1435165496053646825, PySem.W.Fast.te14289696077712309145, PySem.W.Fast.te14082659384304107361, PySem.W.Fast.te5923862056798008813, PySem.W.Fast.te4187177175401517315]
  kernel_rfl
end hd

section

/-- a wide room: nothing handled, no frames told -/
abbrev AN (n : Nat) : Around := { handled := none, depth := n, units := n }
abbrev AB : Around := AN 600

theorem wp_AN {α : Type} {n : Nat} {M : Model} {A : Around} {t : Sem α} {Q : α → Shared → Prop} {E : Value → Shared → Prop} {s : Shared}
    (hh : A.handled = none) (hd : A.depth ≤ n) (hu : A.units ≤ n) (h : wpAny M (AN n) t Q E s) : wpAny M A t Q E s :=
  fun Γ p hΓ => h Γ p ⟨hΓ.1.trans hh, Nat.le_trans hΓ.2.1 hd, (by intro l e; cases e), (by intro l e; cases e), Nat.le_trans hΓ.2.2.2.2 hu⟩

theorem wp_AB {α : Type} {M : Model} {A : Around} {t : Sem α} {Q : α → Shared → Prop} {E : Value → Shared → Prop} {s : Shared}
    (hh : A.handled = none) (hd : A.depth ≤ 600) (hu : A.units ≤ 600) (h : wpAny M AB t Q E s) : wpAny M A t Q E s :=
  fun Γ p hΓ => h Γ p ⟨hΓ.1.trans hh, Nat.le_trans hΓ.2.1 hd, (by intro l e; cases e), (by intro l e; cases e), Nat.le_trans hΓ.2.2.2.2 hu⟩

abbrev NoE : Value → Shared → Prop := fun _ _ => False

theorem wp_noE {α : Type} {M : Model} {A : Around} {t : Sem α} {Q : α → Shared → Prop} {E : Value → Shared → Prop} {s : Shared}
    (h : wpAny M A t Q NoE s) : wpAny M A t Q E s := wpAny_mono h (fun _ _ x => x) (fun _ _ x => x.elim)

section
variable {prog : Program} {w : World} {A : Around} {s : Shared} {R : Result → Shared → Prop} {name qual : Str} {params : Arguments} {body : List Stmt} {scope : Scope} {dV kV doc pm cdv ct oc : Value} {an od : Option Addr} {osl : Array (Option Value)} {f : Addr} {args : Args} {binds : List (Str × Value)} {K : Frag}

theorem enter_plain (X : K.In s.heap) (hlim : s.heap.NoLimit)
    (ho : K.lookup f = some ⟨oc, od, .func (fnOf name qual params body scope dV kV doc pm an cdv ct), osl⟩) (hcd : codeIn K cdv qual = true) (hroom : A.depth < recursionLimit)
    (hbind : BindsTo s (fnOf name qual params body scope dV kV doc pm an cdv ct) args binds) (hloc : ∀ y ∈ binds, scope.names.lookup y.1 = some .local)
    (h : ∀ h₁, Fr s.heap s.heap.objs.size h₁ (fun y => binds.reverse.lookup y) → News s.heap s.heap.objs.size h₁ [] → 
      wpAny (model prog w) (A.deeper (envOf qual scope s.heap.objs.size f cdv)) (execs body (envOf qual scope s.heap.objs.size f cdv))
        (fun fl s' => R (.ok (.ret (match fl with | .ret v => v | _ => .none))) s') NoE
        { s with heap := h₁, toks := s.toks + binds.length })
    (hcell : ∀ x ∈ scope.names, x.2 ≠ .cell) (hco : scope.isCoroutine = false) (hgen : scope.isGenerator = false) (hk : scope.kind = .function) : codeAny (model prog w) A (.call (.ref f) args) R s := by
  refine codeAny_call_def (fd := fnOf name qual params body scope dV kV doc pm an cdv ct) (body := body) (binds := binds) hroom (X _ _ ho) rfl hlim (codeRec_of X hcd) rfl hbind hcell hloc (fun h₁ hns hk₁ => ?_) hco hgen hk
  exact wp_noE (h h₁ ⟨hns, hk₁, Nat.le_refl _⟩ News.nil)

theorem enter_cells (X : K.In s.heap) (hlim : s.heap.NoLimit)
    (ho : K.lookup f = some ⟨oc, od, .func (fnOf name qual params body scope dV kV doc pm an cdv ct), osl⟩) (hcd : codeIn K cdv qual = true) (hroom : A.depth < recursionLimit)
    (hbind : BindsTo s (fnOf name qual params body scope dV kV doc pm an cdv ct) args binds) (hkind : (binds.all fun y => scope.names.lookup y.1 == some .local || scope.names.lookup y.1 == some .cell) = true)
    (hnd : ((cellsFrom 0 scope.names []).map (·.1)).Nodup)
    (h : ∀ h₁ tk cells, Fr s.heap s.heap.objs.size h₁ (bindL (envOfC qual scope s.heap.objs.size f cdv).kindOf binds fun _ => none) → News s.heap s.heap.objs.size h₁ cells →
      CellsAre (bindC (envOfC qual scope s.heap.objs.size f cdv).kindOf binds fun _ => none) (cellsFrom (s.heap.objs.size + 1) scope.names []) cells →
      wpAny (model prog w) (A.deeper (envOfC qual scope s.heap.objs.size f cdv)) (execs body (envOfC qual scope s.heap.objs.size f cdv))
        (fun fl s' => R (.ok (.ret (match fl with | .ret v => v | _ => .none))) s') NoE
        { s with heap := h₁, toks := tk })
    (hco : scope.isCoroutine = false) (hgen : scope.isGenerator = false) (hk : scope.kind = .function) : codeAny (model prog w) A (.call (.ref f) args) R s := by
  refine codeAny_call_function hroom (X _ _ ho) rfl hco hgen rfl (codeRec_of X hcd) (hbind _ _ _ _ ?_)
  refine wpAny_newFunctionEnv_cells hk (kindsX hkind _) fun env' he s' x => ?_
  subst he
  refine ⟨hlim.keeps x.toInCall.keep, codeAny_func ?_⟩
  obtain ⟨h₁, tk, rfl, _⟩ := x.done
  have hk₁ := x.toInCall.keep
  obtain ⟨cells, NC, Y⟩ := Cl.news (h₀ := s.heap) (Nat.le_refl _) fun n c hm => ⟨x.cell n c (lookup_of_mem_nodup (cellsFrom_names scope.names 0 (s.heap.objs.size + 1) [] [] rfl ▸ hnd) hm), x.above n c hm⟩
  exact wp_noE (h h₁ tk cells ⟨x.toInCall.ns, hk₁, Nat.le_refl _⟩ NC Y)
end

end

section

theorem none_of_le {h : Heap} {a : Addr} (ha : h.objs.size ≤ a) : h.get? a = none := Heap.get?_none_of_le ha

/-- what stands behind a pyNext: the end, or one more assigned -/
def NextThen (prog : Program) (w : World) (A : Around) (target : Expr) (it : Value) (env : Env) (fin go : Shared → Prop) (r : Option Value) (s₁ : Shared) : Prop :=
  match r with
  | none => fin s₁
  | some v => wpAny (model prog w) A (letOwnedTupleGo target it v) (fun _ s₂ => wpAny (model prog w) A (assign target env v) (fun _ s₃ => go s₃) NoE s₂) NoE s₁

/-- what a for or a comprehension draws on -/
structure Src (prog : Program) (w : World) (A : Around) (target : Expr) (it : Value) (fp wr : List Addr) (n : Nat) (names : List Str)
    (V : Nat → (Str → Option Value) → (Str → Option Value) → Prop) (St : Nat → Heap → Prop) : Prop where
  sub : ∀ b ∈ wr, b ∈ fp
  live : ∀ i h, St i h → ∀ b ∈ wr, ∃ o, h.get? b = some o
  frame : ∀ i h h', St i h → (∀ b ∈ fp, ∀ o, h.get? b = some o → h'.get? b = some o) → St i h'
  step : ∀ i (env : Env) m (s : Shared) (fin Q : Shared → Prop), i < n → St i s.heap → s.heap.Ns env.locals m → env.locals ∉ fp →
    (∀ x ∈ names, env.kindOf x = some .local) → (env.scope.kind == .class || (env.scope.kind == .module && env.locals != env.globals)) = false →
    (∀ h' tk m', V i m m' → h'.Ns env.locals m' → St (i + 1) h' → (∀ b o, b ∉ wr → b ≠ env.locals → s.heap.get? b = some o → h'.get? b = some o) → Q { s with heap := h', toks := tk }) →
    wpAny (model prog w) A (pyNext it) (NextThen prog w A target it env fin Q) NoE s
  done : ∀ (env : Env) (s : Shared) (Q go : Shared → Prop), St n s.heap → (∀ h' tk, (∀ b o, b ∉ wr → s.heap.get? b = some o → h'.get? b = some o) → Q { s with heap := h', toks := tk }) →
    wpAny (model prog w) A (pyNext it) (NextThen prog w A target it env Q go) NoE s
  self : ∀ i (s : Shared) (Q : Value → Shared → Prop) (E : Value → Shared → Prop), St i s.heap → Q it s → wpAny (model prog w) A (pyIter it) Q E s

section
variable {prog : Program} {w : World} {A : Around} {E : Value → Shared → Prop} {s : Shared} {env : Env}

/-- same state but for heap and tokens, old objects kept -/
def Kp (s s' : Shared) : Prop := ∃ h tk, s' = { s with heap := h, toks := tk } ∧ ∀ b o, s.heap.get? b = some o → h.get? b = some o
theorem Kp.refl (s : Shared) : Kp s s := ⟨_, _, rfl, fun _ _ e => e⟩
theorem Kp.trans {a b c : Shared} (x : Kp a b) (y : Kp b c) : Kp a c := by
  obtain ⟨h, tk, rfl, k⟩ := x
  obtain ⟨h', tk', rfl, k'⟩ := y
  exact ⟨h', tk', rfl, fun b o e => k' b o (k b o e)⟩
theorem Kp.get {a b : Shared} (x : Kp a b) {c : Addr} {o : Obj} (e : a.heap.get? c = some o) : b.heap.get? c = some o := by
  obtain ⟨h, tk, rfl, k⟩ := x
  exact k c o e

abbrev CompJ := (Addr → Prop) → Nat → List Value → Heap → Prop

/-- one turn of a comprehension: tests, then the element -/
def CompTurnOk (prog : Program) (w : World) (A : Around) (cenv : Env) (ifs : List Expr) (elt : Expr) (J : CompJ) (Z : Addr → Prop) (i : Nat) (ys : List Value) (s : Shared) : Prop :=
  wpAny (model prog w) A (forIn ifs true fun c r => if r = true then do let ok ← isTrue c cenv (eval c cenv); pure (ForInStep.yield ok) else pure (ForInStep.yield r))
    (fun ok s' => Kp s s' ∧ match ok with
      | true => wpAny (model prog w) A (eval elt cenv) (fun y s'' => Kp s' s'' ∧ J Z (i + 1) (ys ++ [y]) s''.heap) NoE s'
      | false => J Z (i + 1) ys s'.heap) NoE s

theorem CompTurnOk.plain {cenv : Env} {elt : Expr} {J : CompJ} {Z : Addr → Prop} {i : Nat} {ys : List Value}
    (h : wpAny (model prog w) A (eval elt cenv) (fun y s'' => Kp s s'' ∧ J Z (i + 1) (ys ++ [y]) s''.heap) NoE s) : CompTurnOk prog w A cenv [] elt J Z i ys s :=
  wpAny_tests_nil ⟨Kp.refl _, h⟩
theorem CompTurnOk.one {cenv : Env} {elt c : Expr} {J : CompJ} {Z : Addr → Prop} {i : Nat} {ys : List Value}
    (h : wpAny (model prog w) A (isTrue c cenv (eval c cenv)) (fun ok s' => Kp s s' ∧ match ok with
      | true => wpAny (model prog w) A (eval elt cenv) (fun y s'' => Kp s' s'' ∧ J Z (i + 1) (ys ++ [y]) s''.heap) NoE s'
      | false => J Z (i + 1) ys s'.heap) NoE s) : CompTurnOk prog w A cenv [c] elt J Z i ys s :=
  wpAny_tests_one h

theorem codeAny_compLoopG {elt target iter : Expr} {ifs : List Expr} {scope : Scope} {pos : Pos} {it acc : Value} {env : Env} {R : Result → Shared → Prop} (I : Nat → Shared → Prop)
    (turn : ∀ n s, I n s → wpAny (model prog w) A (pyNext it) (NextThen prog w A target it env (fun s₁ => R (.ok .next) s₁) (fun s₂ =>
          wpAny (model prog w) A (forIn ifs true fun c r => if r = true then do let ok ← isTrue c env (eval c env); pure (ForInStep.yield ok) else pure (ForInStep.yield r)) (fun ok s₃ =>
            if ok = true then wpAny (model prog w) A (eval elt env) (fun x s₄ =>
              wpAny (model prog w) A (call (.builtin "list.append") [acc, x]) (fun _ s₅ => ∃ m, m < n ∧ I m s₅) NoE s₄) NoE s₃
            else ∃ m, m < n ∧ I m s₃) NoE s₂)) NoE s)
    (n : Nat) (h : I n s) : codeAny (model prog w) A (.compLoop (.ListComp elt [⟨target, iter, ifs, 0⟩] scope pos) 0 it acc env) R s := by
  refine codeAny_loop rfl I (fun n s hI => ?_) n h
  show wpAny _ A ((compTurn (.ListComp elt [⟨target, iter, ifs, 0⟩] scope pos) 0 it acc env).onRaise (fun x => do noteFrame x env; theTreesLotGoes x)) _ _ s
  refine wpAny_noted ?_
  rw [compTurn_list]
  refine wp_noE ?_
  refine wpAny_bind (wpAny_standAt (wpAny_bind (wpAny_mono (turn n s hI) (fun r s₁ h₁ => ?_) fun _ _ h' => h')))
  cases r with
  | none => exact wpAny_pure h₁
  | some v =>
    refine wpAny_bind (wpAny_mono h₁ (fun _ s₁' h₁' => ?_) fun _ _ h' => h')
    refine wpAny_bind (wpAny_mono h₁' (fun _ s₂ h₂ => wpAny_bind (wpAny_mono h₂ (fun ok s₃ h₃ => ?_) fun _ _ h' => h')) fun _ _ h' => h')
    cases ok with
    | false => exact wpAny_pure ⟨rfl, h₃⟩
    | true =>
      exact wpAny_bind (wpAny_bind (wpAny_mono h₃ (fun x s₄ h₄ => wpAny_bind (wpAny_mono h₄ (fun _ s₅ h₅ => wpAny_pure (wpAny_pure ⟨rfl, h₅⟩)) fun _ _ h' => h')) fun _ _ h' => h'))

theorem ns_keep {h h' : Heap} {L : Addr} {m : Str → Option Value} (hn : h.Ns L m) (e : ∀ o, h.get? L = some o → h'.get? L = some o) : h'.Ns L m := hn.at' e

variable {elt target iter : Expr} {ifs : List Expr} {scope : Scope} {cl : List (Str × Addr)} {pos : Pos}


variable {h₀ : Heap} {L : Addr} {m : Str → Option Value} {news : List (Addr × Obj)}

theorem comp_block {it : Value} {fp wr : List Addr} {n : Nat} {names : List Str} {V : Nat → (Str → Option Value) → (Str → Option Value) → Prop} {St : Nat → Heap → Prop} {s s₂ : Shared} {J : CompJ} {RR : Value → Addr → Result → Shared → Prop}
    (F : Fr h₀ L s.heap m) (N : News h₀ L s.heap news)
    (W : Src prog w A target it fp wr n names V St) (hsz : n ≤ sizeLine) (hk₂ : Kp s s₂) (hwr : ∀ b ∈ wr, s.heap.get? b = none)
    (hcell : ∀ y ∈ scope.names, y.2 ≠ .cell) (hkind : scope.kind = .function) (hx : ∀ x ∈ names, scope.names.lookup x = some .local) (hst : St 0 s₂.heap) (hfp : ∀ b ∈ fp, b < s₂.heap.objs.size)
    (hm : ∀ Z i ys h h', J Z i ys h → (∀ b o, ¬ Z b → h.get? b = some o → h'.get? b = some o) → J Z i ys h')
    (hJ0 : ∀ Z h, J Z 0 [] h)
    (turn : ∀ Z i ys C h tk m m', i < n → J Z i ys h → ys.length ≤ i → V i m m' → Fr h₀ C h m' → News h₀ C h news → (∀ b o, s.heap.get? b = some o → h.get? b = some o) → (∀ b, Z b → ∃ o, h.get? b = some o) →
      CompTurnOk prog w A (compEnvC scope cl C env) ifs elt J Z i ys { s with heap := h, toks := tk })
    (hRR : ∀ D C h' tk m' ys, s₂.heap.get? D = none → s₂.heap.get? C = none → D ≠ C → h'.Ns C m' → h'.get? D = some (listOf ys.toArray ys.length) → ys.length ≤ n → 
      (∃ Z, J Z n ys h' ∧ Z C ∧ Z L) →
      (∀ b o, b ∉ wr → s₂.heap.get? b = some o → h'.get? b = some o) → RR (.ref D) C (.ok .next) { s₂ with heap := h', toks := tk }) :
    wpAny (model prog w) A (newList []) (fun acc s₃ => wpAny (model prog w) A (newFunctionEnv scope env.globals cl [] env.qual none .none (some env)) (fun cenv s₄ =>
      codeAny (model prog w) A (.compStart (.ListComp elt [⟨target, iter, ifs, 0⟩] scope pos) 0 it acc { cenv with scope := relabel scope env }) (RR acc cenv.locals) s₄) E s₃) E s₂ := by
  obtain ⟨hp₂, tk₂, rfl, k₂⟩ := hk₂
  refine wpAny_newObj_type (wpAny_newFunctionEnv hcell (by intro y hy; simp at hy) (fun h₁ hns₁ hsb₁ => ?_) hkind)
  dsimp only at hns₁ hsb₁ hfp hst hRR ⊢
  generalize hH2 : hp₂.push { cls := .type "list", dict := none, data := .seq ([] : List Value).toArray } = H2 at hns₁ hsb₁ ⊢
  have hC : H2.objs.size = hp₂.objs.size + 1 := by rw [← hH2, Heap.size_push]
  have hDC : hp₂.objs.size ≠ H2.objs.size := by rw [hC]; exact Nat.ne_of_lt (Nat.lt_succ_self _)
  have below : ∀ b, b < hp₂.objs.size → b ≠ H2.objs.size ∧ b ≠ hp₂.objs.size := fun b hb => ⟨by rw [hC]; exact Nat.ne_of_lt (Nat.lt_succ_of_lt hb), Nat.ne_of_lt hb⟩
  have hDf : hp₂.objs.size ∉ fp := fun hm => Nat.lt_irrefl _ (hfp _ hm)
  have hCf : H2.objs.size ∉ fp := fun hm => by have := hfp _ hm; rw [hC] at this; exact Nat.lt_irrefl _ (Nat.lt_of_succ_lt this)
  have old : ∀ b o, hp₂.get? b = some o → h₁.get? b = some o := fun b o e => hsb₁.extBut b o (below b (Heap.lt_size e)).1 (Heap.get?_push_of_some _ (hH2 ▸ Heap.get?_push_of_some _ e))
  have hacc : h₁.get? hp₂.objs.size = some (listOf ([] : List Value).toArray ([] : List Value).length) := hsb₁.extBut _ _ hDC (Heap.get?_push_of_some _ (hH2 ▸ Heap.get?_push_size _ rfl))
  have hst₁ : St 0 h₁ := W.frame _ _ _ hst fun b _ o e => old b o e
  have fresh : ∀ a, hp₂.objs.size ≤ a → hp₂.get? a = none := fun a ha => none_of_le ha
  have hL₂ : L < hp₂.objs.size := by
    obtain ⟨oL, _, _, hoL, _⟩ := F.ns
    exact Heap.lt_size (k₂ _ _ hoL)
  have habove : h₀.objs.size ≤ H2.objs.size := by rw [hC]; exact Nat.le_succ_of_le (Nat.le_of_lt (Nat.lt_of_le_of_lt F.above hL₂))
  -- what stays of the old heap
  let Z : Addr → Prop := fun b => b = H2.objs.size ∨ b = hp₂.objs.size ∨ b ∈ wr ∨ b = L
  have zold : ∀ b o, s.heap.get? b = some o → b ≠ H2.objs.size ∧ b ≠ hp₂.objs.size ∧ b ∉ wr := fun b o e =>
    ⟨(below _ (Heap.lt_size (k₂ _ _ e))).1, (below _ (Heap.lt_size (k₂ _ _ e))).2, fun hz => by rw [hwr b hz] at e; cases e⟩
  have loop : ∀ s₃ : Shared, s₃ = { s with heap := h₁, toks := tk₂ + ([] : List (Str × Value)).length } →
      codeAny (model prog w) A (.compLoop (.ListComp elt [⟨target, iter, ifs, 0⟩] scope pos) 0 it (.ref hp₂.objs.size) (compEnvC scope cl H2.objs.size env))
        (RR (.ref hp₂.objs.size) H2.objs.size) s₃ := by
    rintro s₃ rfl
    refine codeAny_compLoopG
      (fun k s' => ∃ h' tk i ys m', s' = { s with heap := h', toks := tk } ∧ i ≤ n ∧ k = n + 1 - i ∧ ys.length ≤ i ∧ St i h' ∧ h'.Ns H2.objs.size m' ∧ h'.get? hp₂.objs.size = some (listOf ys.toArray ys.length) ∧
        J Z i ys h' ∧ (∀ b o, b ∉ wr → b ≠ H2.objs.size → b ≠ hp₂.objs.size → hp₂.get? b = some o → h'.get? b = some o)) ?_ (n + 1)
      ⟨h₁, _, 0, [], _, rfl, Nat.zero_le _, rfl, Nat.zero_le _, hst₁, hns₁, hacc, hJ0 _ _, fun b o _ _ _ e => old b o e⟩
    rintro k s' ⟨h', tk, i, ys, m', rfl, hi, rfl, hyl, hst', hn', hD', hJ', hk'⟩
    by_cases hlt : i < n
    · refine W.step i (compEnvC scope cl H2.objs.size env) m' _ _ _ hlt hst' hn' hCf (fun x hx' => lookup_relabel_local (hx x hx')) (by simp [compEnvC, relabel, hkind]) ?_
      · intro h₃ tk₃ m₃ hV hn₃ hst₃ hk₃
        have hDw : hp₂.objs.size ∉ wr := fun h => hDf (W.sub _ h)
        have hCw : H2.objs.size ∉ wr := fun h => hCf (W.sub _ h)
        have hD₃ : h₃.get? hp₂.objs.size = some (listOf ys.toArray ys.length) := hk₃ _ _ hDw hDC hD'
        have keep₃ : ∀ b o, b ∉ wr → b ≠ H2.objs.size → b ≠ hp₂.objs.size → hp₂.get? b = some o → h₃.get? b = some o := fun b o hb1 hb2 hb3 e => hk₃ b o hb1 hb2 (hk' b o hb1 hb2 hb3 e)
        have keepS : ∀ b o, s.heap.get? b = some o → h₃.get? b = some o := fun b o e => by
          have hz := zold b o e
          exact keep₃ b o hz.2.2 hz.1 hz.2.1 (k₂ b o e)
        have F₃ : Fr h₀ H2.objs.size h₃ m₃ := ⟨hn₃, fun b o e => keepS b o (F.keep b o e), habove⟩
        have N₃ : News h₀ H2.objs.size h₃ news := fun p hp => ⟨keepS _ _ (N p hp).1, (below _ (Heap.lt_size (k₂ _ _ (N p hp).1))).1, (N p hp).2.2⟩
        have hJ₃ : J Z i ys h₃ := hm _ _ _ _ _ hJ' fun b o hz e => hk₃ b o (fun q => hz (.inr (.inr (.inl q)))) (fun q => hz (.inl q)) e
        have hlive : ∀ b, Z b → ∃ o, h₃.get? b = some o := fun b hz => by
          rcases hz with rfl | rfl | hz | rfl
          · obtain ⟨o, _, _, e, _⟩ := hn₃; exact ⟨o, e⟩
          · exact ⟨_, hD₃⟩
          · exact W.live _ _ hst₃ b hz
          · obtain ⟨o, _, _, e, _⟩ := F.ns; exact ⟨o, keepS _ _ e⟩
        refine wpAny_mono (turn Z i ys H2.objs.size h₃ tk₃ m' m₃ hlt hJ₃ hyl hV F₃ N₃ keepS hlive) (fun ok s₄ h₄ => ?_) fun _ _ e => e
        obtain ⟨⟨h₄', tk₄, rfl, kp₄⟩, h₄⟩ := h₄
        have hst₄ : St (i + 1) h₄' := W.frame _ _ _ hst₃ fun b _ o e => kp₄ b o e
        cases ok with
        | false =>
          rw [if_neg Bool.false_ne_true]
          exact ⟨n + 1 - (i + 1), by omega, h₄', tk₄, i + 1, ys, m₃, rfl, hlt, rfl, Nat.le_succ_of_le hyl, hst₄, hn₃.keeps kp₄, kp₄ _ _ hD₃, h₄, fun b o a1 a2 a3 e => kp₄ _ _ (keep₃ b o a1 a2 a3 e)⟩
        | true =>
          rw [if_pos rfl]
          refine wpAny_mono h₄ (fun y s₅ h₅ => ?_) fun _ _ e => e
          obtain ⟨⟨h₅', tk₅, rfl, kp₅⟩, hJ₅⟩ := h₅
          refine append_at (kp₅ _ _ (kp₄ _ _ hD₃)) (fun h₆ hs₆ hD₆ => ?_) (by rw [List.size_toArray]; omega)
          have e6 : (listOf (ys.toArray.push y) (ys.length + 1)) = listOf (ys ++ [y]).toArray (ys ++ [y]).length := by
            rw [List.length_append, List.length_singleton, List.push_toArray]
          refine ⟨n + 1 - (i + 1), by omega, h₆, tk₅, i + 1, ys ++ [y], m₃, rfl, hlt, rfl, by rw [List.length_append, List.length_singleton]; omega, ?_, ?_, by rw [← e6]; exact hD₆, ?_, fun b o a1 a2 a3 e => hs₆.extBut _ _ a3 (kp₅ _ _ (kp₄ _ _ (keep₃ b o a1 a2 a3 e)))⟩
          · exact W.frame _ _ _ hst₄ fun b hb o e => hs₆.extBut _ _ (fun q => hDf (q ▸ hb)) (kp₅ _ _ e)
          · exact ((hn₃.keeps kp₄).keeps kp₅).at' fun o e => hs₆.extBut _ _ (Ne.symm hDC) e
          · exact hm _ _ _ _ _ hJ₅ fun b o hz e => hs₆.extBut _ _ (fun q => hz (.inr (.inl q))) e
    · obtain rfl : i = n := Nat.le_antisymm hi (Nat.not_lt.mp hlt)
      refine W.done _ _ _ _ hst' fun h₃ tk₃ hk₃ => ?_
      have hDw : hp₂.objs.size ∉ wr := fun h => hDf (W.sub _ h)
      have hCw : H2.objs.size ∉ wr := fun h => hCf (W.sub _ h)
      exact hRR _ _ h₃ tk₃ m' ys (fresh _ (Nat.le_refl _)) (fresh _ (by rw [hC]; exact Nat.le_succ _)) hDC (hn'.at' fun o e => hk₃ _ _ hCw e) (hk₃ _ _ hDw hD') hyl
          ⟨Z, hm _ _ _ _ _ hJ' fun b o hz e => hk₃ b o (fun q => hz (.inr (.inr (.inl q)))) e, .inl rfl, .inr (.inr (.inr rfl))⟩ fun b o hb e => hk₃ b o hb (hk' b o hb (below b (Heap.lt_size e)).1 (below b (Heap.lt_size e)).2 e)
  exact codeAny_compStart_list (loop _ rfl) (W.self 0 _ _ _ hst₁ (loop _ rfl))

/-- where the source of a comprehension stands ready -/
structure CompReady (prog : Program) (w : World) (A : Around) (h₀ : Heap) (L : Addr) (m : Str → Option Value) (news : List (Addr × Obj)) (env : Env) (target elt : Expr) (ifs : List Expr) (scope : Scope) (cl : List (Str × Addr))
    (s : Shared) (it : Value) (s₂ : Shared) (J : CompJ) (n : Nat) : Prop where
  ex : ∃ (fp wr : List Addr) (names : List Str) (V : Nat → (Str → Option Value) → (Str → Option Value) → Prop) (St : Nat → Heap → Prop),
    Src prog w A target it fp wr n names V St ∧ (∀ x ∈ names, scope.names.lookup x = some .local) ∧ St 0 s₂.heap ∧ (∀ b ∈ fp, b < s₂.heap.objs.size) ∧ (∀ b ∈ wr, s.heap.get? b = none) ∧
    (∀ Z i ys C h tk m m', i < n → J Z i ys h → ys.length ≤ i → V i m m' → Fr h₀ C h m' → News h₀ C h news → (∀ b o, s.heap.get? b = some o → h.get? b = some o) → (∀ b, Z b → ∃ o, h.get? b = some o) →
      CompTurnOk prog w A (compEnvC scope cl C env) ifs elt J Z i ys { s with heap := h, toks := tk })
  kp : Kp s s₂
  hsz : n ≤ sizeLine
  hm : ∀ Z i ys h h', J Z i ys h → (∀ b o, ¬ Z b → h.get? b = some o → h'.get? b = some o) → J Z i ys h'
  hJ0 : ∀ Z h, J Z 0 [] h

theorem compS_eval {s : Shared} {Q : Value → Shared → Prop} (F : Fr h₀ L s.heap m) (N : News h₀ L s.heap news)
    (hclos : closureFor scope env = pure cl) (hcell : ∀ y ∈ scope.names, y.2 ≠ .cell) (hkind : scope.kind = .function)
    (hnames : ∀ y ∈ scope.names, y.2 = .local → scope.names.lookup y.1 = some .local)
    (h : wpAny (model prog w) A (eval iter env) (fun xv s₁ => wpAny (model prog w) A (pyIter xv) (fun it s₂ => ∃ J n, CompReady prog w A h₀ L m news env target elt ifs scope cl s it s₂ J n ∧
      ∀ Z D h' tk ys, J Z n ys h' → ys.length ≤ n → Fr h₀ L h' m → News h₀ L h' ((D, listOf ys.toArray ys.length) :: news) → (∀ b o, s.heap.get? b = some o → h'.get? b = some o) → s.heap.get? D = none →
        Q (.ref D) { s with heap := h', toks := tk }) E s₁) E s)
    (hs : ∀ x, foldedSetIterable iter env x = pure x := by intro _; rfl) :
    wpAny (model prog w) A (eval (.ListComp elt [⟨target, iter, ifs, 0⟩] scope pos) env) Q E s := by
  rw [eval_ListComp]
  refine wpAny_comprehension_free (use := none) rfl hs hclos hkind hnames (wpAny_mono h (fun xv s₁ h₁ => wpAny_mono h₁ (fun it s₂ h₂ => ?_) fun _ _ e => e) fun _ _ e => e)
  obtain ⟨J, n, ⟨⟨fp, wr, names, V, St, W, hx, hst, hfp, hwr, turn⟩, kp, hsz, hm, hJ0⟩, hQ⟩ := h₂
  refine comp_block (RR := fun acc C => compPost (model prog w) A E none Q acc C) F N W hsz kp hwr hcell hkind hx hst hfp hm hJ0 turn ?_
  obtain ⟨hp₂, tk₂, rfl, k₂⟩ := kp
  intro D C h' tk m' ys hD hC hDC hn hl hlen hJ hk
  obtain ⟨Z, hJ, hZC, hZL⟩ := hJ
  refine ⟨m', hn, fun h'' hs'' => ?_⟩
  have old : ∀ b o, s.heap.get? b = some o → h''.get? b = some o := fun b o e => by
    have e2 := k₂ b o e
    refine hs''.extBut b o (by rintro rfl; dsimp only at hC; rw [hC] at e2; cases e2) (hk b o (fun q => ?_) e2)
    rw [hwr b q] at e; cases e
  have hDs : s.heap.get? D = none := by
    cases q : s.heap.get? D with
    | none => rfl
    | some o => have := k₂ _ _ q; dsimp only at hD; rw [hD] at this; cases this
  have hDL : D ≠ L := fun q => by
    obtain ⟨oL, _, _, hoL, _⟩ := F.ns
    rw [q, hoL] at hDs; cases hDs
  have hD₀ : h₀.get? D = none := by
    cases q : h₀.get? D with
    | none => rfl
    | some o => rw [F.keep _ _ q] at hDs; cases hDs
  refine hQ Z D h'' tk ys (hm _ _ _ _ _ hJ fun b o hz e => hs''.extBut b o (fun q => hz (q ▸ hZC)) e) hlen (F.keeps old) (fun p hp => ?_) old hDs
  rcases List.mem_cons.mp hp with rfl | hp
  · exact ⟨hs''.extBut _ _ hDC hl, hDL, hD₀⟩
  · exact ⟨old _ _ (N p hp).1, (N p hp).2⟩

theorem compS_assign {s : Shared} {y : Str} {py spos : Pos} {Q : Flow → Shared → Prop} (F : Fr h₀ L s.heap m) (N : News h₀ L s.heap news) (hLe : env.locals = L)
    (hsw : swapsWith (.ListComp elt [⟨target, iter, ifs, 0⟩] scope pos) (some (.Name y py)) spos.line env = pure true)
    (hclos : closureFor scope env = pure cl) (hcell : ∀ y ∈ scope.names, y.2 ≠ .cell) (hkind : scope.kind = .function)
    (hnames : ∀ y ∈ scope.names, y.2 = .local → scope.names.lookup y.1 = some .local)
    (hy : env.kindOf y = some .local) (hp : (env.scope.kind == .class || (env.scope.kind == .module && env.locals != env.globals)) = false)
    (h : wpAny (model prog w) A (eval iter env) (fun xv s₁ => wpAny (model prog w) A (pyIter xv) (fun it s₂ => ∃ J n, CompReady prog w A h₀ L m news env target elt ifs scope cl s it s₂ J n ∧
      ∀ Z D h' tk ys, J Z n ys h' → ys.length ≤ n → Fr h₀ L h' (fun z => if z = y then some (.ref D) else m z) → News h₀ L h' ((D, listOf ys.toArray ys.length) :: news) → (∀ b o, b ≠ L → s.heap.get? b = some o → h'.get? b = some o) → s.heap.get? D = none →
        Q .next { s with heap := h', toks := tk }) E s₁) E s)
    (hs : ∀ x, foldedSetIterable iter env x = pure x := by intro _; rfl) :
    wpAny (model prog w) A (exec (.Assign [.Name y py] (.ListComp elt [⟨target, iter, ifs, 0⟩] scope pos) spos) env) Q E s := by
  subst hLe
  rw [exec_Assign_Name_used _ _ _ _ hsw]
  refine wpAny_bind (wpAny_standAt (wpAny_bind ?_))
  show wpAny _ A (do let _ ← comprehension (.ListComp elt [⟨target, iter, ifs, 0⟩] scope pos) scope env _ (newList []) false (eval iter env) (some (assign (.Name y py) env))) _ _ s
  refine wpAny_bind (wpAny_mono (wpAny_comprehension_free (use := some (assign (.Name y py) env)) (Q := fun _ s' => Q .next s') rfl hs hclos hkind hnames
    (wpAny_mono h (fun xv s₁ h₁ => wpAny_mono h₁ (fun it s₂ h₂ => ?_) fun _ _ e => e) fun _ _ e => e)) (fun _ s' hq => wpAny_pure (wpAny_pure hq)) fun _ _ e => e)
  obtain ⟨J, n, ⟨⟨fp, wr, names, V, St, W, hx, hst, hfp, hwr, turn⟩, kp, hsz, hm, hJ0⟩, hQ⟩ := h₂
  refine comp_block (RR := fun acc C => compPost (model prog w) A E (some (assign (.Name y py) env)) (fun _ s' => Q .next s') acc C) F N W hsz kp hwr hcell hkind hx hst hfp hm hJ0 turn ?_
  obtain ⟨hp₂, tk₂, rfl, k₂⟩ := kp
  intro D C h' tk m' ys hD hC hDC hn hl hlen hJ hk
  obtain ⟨Z, hJ, hZC, hZL⟩ := hJ
  have old' : ∀ b o, s.heap.get? b = some o → h'.get? b = some o := fun b o e => by
    have e2 := k₂ b o e
    refine hk b o (fun q => ?_) e2
    rw [hwr b q] at e; cases e
  have hDs : s.heap.get? D = none := by
    cases q : s.heap.get? D with
    | none => rfl
    | some o => have := k₂ _ _ q; dsimp only at hD; rw [hD] at this; cases this
  have hCs : s.heap.get? C = none := by
    cases q : s.heap.get? C with
    | none => rfl
    | some o => have := k₂ _ _ q; dsimp only at hC; rw [hC] at this; cases this
  have hDL : D ≠ env.locals := fun q => by
    obtain ⟨oL, _, _, hoL, _⟩ := F.ns
    rw [q, hoL] at hDs; cases hDs
  have hCL : C ≠ env.locals := fun q => by
    obtain ⟨oL, _, _, hoL, _⟩ := F.ns
    rw [q, hoL] at hCs; cases hCs
  have hD₀ : h₀.get? D = none := by
    cases q : h₀.get? D with
    | none => rfl
    | some o => rw [F.keep _ _ q] at hDs; cases hDs
  have hC₀ : h₀.get? C = none := by
    cases q : h₀.get? C with
    | none => rfl
    | some o => rw [F.keep _ _ q] at hCs; cases hCs
  show wpAny _ A (assign (.Name y py) env (.ref D)) _ _ _
  refine wpAny_assign_Name (wpAny_storeName_local hy (F.ns.at' fun o e => old' _ o e) (fun h₂ hn₂ hs₂ => ?_) hp)
  refine ⟨m', hn.sameBut hs₂ hCL, fun h₃ hs₃ => ?_⟩
  have old : ∀ b o, b ≠ env.locals → s.heap.get? b = some o → h₃.get? b = some o := fun b o hb e =>
    hs₃.extBut b o (by rintro rfl; rw [hCs] at e; cases e) (hs₂.extBut b o hb (old' b o e))
  have hL₀ : h₀.get? env.locals = none := none_of_le F.above
  have F₃ : Fr h₀ env.locals h₃ (fun z => if z = y then some (.ref D) else m z) := by
    refine ⟨hn₂.sameBut hs₃ (Ne.symm hCL), fun b o e => old b o (fun q => by rw [q, hL₀] at e; cases e) (F.keep b o e), F.above⟩
  refine hQ Z D h₃ _ ys (hm _ _ _ _ _ hJ fun b o hz e => hs₃.extBut b o (fun q => hz (q ▸ hZC)) (hs₂.extBut b o (fun q => hz (q ▸ hZL)) e)) hlen F₃ (fun p hp => ?_) old hDs
  rcases List.mem_cons.mp hp with rfl | hp
  · exact ⟨hs₃.extBut _ _ hDC (hs₂.extBut _ _ hDL hl), hDL, hD₀⟩
  · exact ⟨old _ _ (N p hp).2.1 (N p hp).1, (N p hp).2⟩
end

end

section

section
variable {prog : Program} {w : World} {A : Around} {E : Value → Shared → Prop} {s : Shared} {env : Env}

theorem Src.ofWalks {I : Addr} {fp wr : List Addr} {n : Nat} {P : Nat → Value → Prop} {St : Nat → Heap → Prop} (W : Walks prog w A I fp wr n P St)
    (hlive : ∀ i h, St i h → ∀ b ∈ wr, ∃ o, h.get? b = some o) (x : Str) (px : Pos) :
    Src prog w A (.Name x px) (.ref I) fp wr n [x] (fun i m m' => ∃ v, P i v ∧ m' = fun y => if y = x then some v else m y) St where
  sub := W.sub
  live := hlive
  frame := W.frame
  step := fun i env m s fin Q hi hst hn hf hx hp hQ => by
    refine W.item i _ _ _ hi hst fun v h' tk hP hst' hk => ?_
    show wpAny _ _ (letOwnedTupleGo (.Name x px) (.ref I) v) _ _ _
    refine wpAny_pure ?_
    refine wpAny_assign_Name (wpAny_storeName_local (hx x (List.mem_singleton.mpr rfl)) (hn.at' fun o e => hk _ o (fun h => hf (W.sub _ h)) e) (fun h₂ hn₂ hs₂ => ?_) hp)
    exact hQ h₂ _ _ ⟨v, hP, rfl⟩ hn₂ (W.frame _ _ _ hst' fun b hb o e => hs₂.extBut b o (fun h => hf (h ▸ hb)) e) fun b o hb hbL e => hs₂.extBut b o hbL (hk b o hb e)
  done := fun env s Q go hst hQ => W.done _ _ _ hst fun h' tk hk => hQ h' tk hk
  self := fun i s Q E hst hQ => W.self i s Q E hst hQ

theorem Src.list (hh : A.handled = none) (I ax : Addr) (hne : ax ≠ I) (items : Array Value) (x : Str) (px : Pos) :
    Src prog w A (.Name x px) (.ref I) [I, ax] [I] items.size [x] (fun i m m' => ∃ v, items[i]? = some v ∧ m' = fun y => if y = x then some v else m y) (fun i h => h.IsListIter I ax i ∧ h.IsList ax items) :=
  Src.ofWalks (Walks.list hh I ax hne items) (fun i h st b hb => by
    rw [List.mem_singleton.mp hb]
    obtain ⟨o, e, _⟩ := st.1
    exact ⟨o, e⟩) x px

theorem Src.ofWalksT2 {I : Addr} {fp wr : List Addr} {n : Nat} {Pt : Nat → Array Value → Prop} {St : Nat → Heap → Prop} {Mid : Nat → Addr → Heap → Prop} (hh : A.handled = none) (W : WalksT prog w A I fp wr n Pt St Mid)
    (hlive : ∀ i h, St i h → ∀ b ∈ wr, ∃ o, h.get? b = some o) (hPt : ∀ i vals, Pt i vals → vals.size = 2) (x y : Str) (px py pt : Pos) (k : Nat) :
    Src prog w A (.Tuple [.Name x px, .Name y py] k pt) (.ref I) fp wr n [x, y] (fun i m m' => ∃ u v, Pt i #[u, v] ∧ m' = fun z => if z = y then some v else if z = x then some u else m z) St where
  sub := W.sub
  live := hlive
  frame := W.frame
  step := fun i env m s fin Q hi hst hn hf hx hp hQ => by
    refine W.item i _ _ _ hi hst fun T vals h' tk hP hTle hT hMid hk => ?_
    obtain ⟨u, v, rfl⟩ : ∃ u v, vals = #[u, v] := by
      have := hPt _ _ hP
      obtain ⟨l⟩ := vals
      match l, this with
      | [u, v], _ => exact ⟨u, v, rfl⟩
    show wpAny _ _ (letOwnedTupleGo (.Tuple [.Name x px, .Name y py] k pt) (.ref I) (.ref T)) _ _ _
    refine W.go _ _ _ _ _ _ _ _ hMid fun h₃ hst₃ hk₃ => ?_
    have hTw := W.apart _ _ _ hMid
    have hT₃ : IsTup h₃ T #[u, v] := by
      obtain ⟨o, ho, r⟩ := hT
      exact ⟨o, hk₃ _ _ hTw ho, r⟩
    have hLw : env.locals ∉ wr := fun h => hf (W.sub _ h)
    refine assign_Tuple_tuple hh hT₃ rfl rfl fun h₄ he₄ => ?_
    have he₄' : ∀ b o, h₃.get? b = some o → h₄.get? b = some o := fun b o e => he₄ b o (Nat.ne_of_lt (Heap.lt_size e)) e
    have hn₄ := ((hn.at' fun o e => hk _ o hLw e).at' fun o e => hk₃ _ o hLw e).at' fun o e => he₄' _ o e
    refine assignInOrder_cons (wpAny_assign_Name (wpAny_storeName_local (hx x (.head _)) hn₄ (fun h₅ hn₅ hs₅ => ?_) hp))
    refine assignInOrder_cons (wpAny_assign_Name (wpAny_storeName_local (hx y (.tail _ (.head _))) hn₅ (fun h₆ hn₆ hs₆ => ?_) hp))
    refine assignInOrder_nil ?_
    have up : ∀ b o, b ≠ env.locals → h₃.get? b = some o → h₆.get? b = some o := fun b o hb e => hs₆.extBut b o hb (hs₅.extBut b o hb (he₄' b o e))
    exact hQ h₆ _ _ ⟨u, v, hP, rfl⟩ hn₆ (W.frame _ _ _ hst₃ fun b hb o e => up b o (fun h => hf (h ▸ hb)) e) fun b o hb hbL e => up b o hbL (hk₃ b o hb (hk b o hb e))
  done := fun env s Q go hst hQ => W.done _ _ _ hst fun h' tk hk => hQ h' tk hk
  self := fun i s Q E hst hQ => W.self i s Q E hst hQ

theorem Src.ofWalksT3 {I : Addr} {fp wr : List Addr} {n : Nat} {Pt : Nat → Array Value → Prop} {St : Nat → Heap → Prop} {Mid : Nat → Addr → Heap → Prop} (hh : A.handled = none) (W : WalksT prog w A I fp wr n Pt St Mid)
    (hlive : ∀ i h, St i h → ∀ b ∈ wr, ∃ o, h.get? b = some o) (hPt : ∀ i vals, Pt i vals → vals.size = 3) (x y z : Str) (px py pz pt : Pos) (k : Nat) :
    Src prog w A (.Tuple [.Name x px, .Name y py, .Name z pz] k pt) (.ref I) fp wr n [x, y, z] (fun i m m' => ∃ u v t, Pt i #[u, v, t] ∧ m' = fun q => if q = z then some t else if q = y then some v else if q = x then some u else m q) St where
  sub := W.sub
  live := hlive
  frame := W.frame
  step := fun i env m s fin Q hi hst hn hf hx hp hQ => by
    refine W.item i _ _ _ hi hst fun T vals h' tk hP hTle hT hMid hk => ?_
    obtain ⟨u, v, t, rfl⟩ : ∃ u v t, vals = #[u, v, t] := by
      have := hPt _ _ hP
      obtain ⟨l⟩ := vals
      match l, this with
      | [u, v, t], _ => exact ⟨u, v, t, rfl⟩
    show wpAny _ _ (letOwnedTupleGo (.Tuple [.Name x px, .Name y py, .Name z pz] k pt) (.ref I) (.ref T)) _ _ _
    refine W.go _ _ _ _ _ _ _ _ hMid fun h₃ hst₃ hk₃ => ?_
    have hTw := W.apart _ _ _ hMid
    have hT₃ : IsTup h₃ T #[u, v, t] := by
      obtain ⟨o, ho, r⟩ := hT
      exact ⟨o, hk₃ _ _ hTw ho, r⟩
    have hLw : env.locals ∉ wr := fun h => hf (W.sub _ h)
    refine assign_Tuple_tuple hh hT₃ rfl rfl fun h₄ he₄ => ?_
    have he₄' : ∀ b o, h₃.get? b = some o → h₄.get? b = some o := fun b o e => he₄ b o (Nat.ne_of_lt (Heap.lt_size e)) e
    have hn₄ := ((hn.at' fun o e => hk _ o hLw e).at' fun o e => hk₃ _ o hLw e).at' fun o e => he₄' _ o e
    refine assignInOrder_cons (wpAny_assign_Name (wpAny_storeName_local (hx x (.head _)) hn₄ (fun h₅ hn₅ hs₅ => ?_) hp))
    refine assignInOrder_cons (wpAny_assign_Name (wpAny_storeName_local (hx y (.tail _ (.head _))) hn₅ (fun h₆ hn₆ hs₆ => ?_) hp))
    refine assignInOrder_cons (wpAny_assign_Name (wpAny_storeName_local (hx z (.tail _ (.tail _ (.head _)))) hn₆ (fun h₇ hn₇ hs₇ => ?_) hp))
    refine assignInOrder_nil ?_
    have up : ∀ b o, b ≠ env.locals → h₃.get? b = some o → h₇.get? b = some o := fun b o hb e => hs₇.extBut b o hb (hs₆.extBut b o hb (hs₅.extBut b o hb (he₄' b o e)))
    exact hQ h₇ _ _ ⟨u, v, t, hP, rfl⟩ hn₇ (W.frame _ _ _ hst₃ fun b hb o e => up b o (fun h => hf (h ▸ hb)) e) fun b o hb hbL e => up b o hbL (hk₃ b o hb (hk b o hb e))
  done := fun env s Q go hst hQ => W.done _ _ _ hst fun h' tk hk => hQ h' tk hk
  self := fun i s Q E hst hQ => W.self i s Q E hst hQ

theorem Src.enumerate (hh : A.handled = none) (e it l : Addr) (hei : e ≠ it) (hle : l ≠ e) (hli : l ≠ it) (items : Array Value) (x y : Str) (px py pt : Pos) (k : Nat) :
    Src prog w A (.Tuple [.Name x px, .Name y py] k pt) (.ref e) [e, it, l] [e, it] items.size [x, y]
      (fun i m m' => ∃ u v, (∃ t x, items[i]? = some x ∧ #[u, v] = #[.int i t, x]) ∧ m' = fun z => if z = y then some v else if z = x then some u else m z)
      (fun i h => (∃ old, IsEnum h e it i old) ∧ h.IsListIter it l i ∧ h.IsList l items) :=
  Src.ofWalksT2 hh (WalksT.enumerate hh e it l hei hle hli items) (fun i h st b hb => by
    obtain ⟨⟨old, he⟩, ⟨o, ho, _⟩, _⟩ := st
    rcases List.mem_cons.mp hb with rfl | hb
    · exact ⟨_, he⟩
    · rw [List.mem_singleton.mp hb]; exact ⟨o, ho⟩) (fun i vals h => by obtain ⟨t, x, _, rfl⟩ := h; rfl) x y px py pt k

theorem Src.zip2 (hh : A.handled = none) (z TI TO i1 i2 l1 l2 : Addr) (D : ZipApart z TI TO i1 i2 l1 l2) (xs ys : Array Value) (x y : Str) (px py pt : Pos) (k : Nat) :
    Src prog w A (.Tuple [.Name x px, .Name y py] k pt) (.ref z) [z, TI, TO, i1, i2, l1, l2] [z, TO, i1, i2] (min xs.size ys.size) [x, y]
      (fun i m m' => ∃ u v, (∃ x y, xs[i]? = some x ∧ ys[i]? = some y ∧ #[u, v] = #[x, y]) ∧ m' = fun z => if z = y then some v else if z = x then some u else m z)
      (fun i h => IsZip h z TI TO .none ∧ IsPair h TI (.ref i1) (.ref i2) ∧ (∃ a b, IsPair h TO a b) ∧ h.IsListIter i1 l1 i ∧ h.IsListIter i2 l2 i ∧ h.IsList l1 xs ∧ h.IsList l2 ys) :=
  Src.ofWalksT2 hh (WalksT.zip2 hh z TI TO i1 i2 l1 l2 D xs ys) (fun i h st b hb => by
    obtain ⟨hz, hTI, ⟨a, b', hTO⟩, ⟨o1, h1, _⟩, ⟨o2, h2, _⟩, hl1, hl2⟩ := st
    simp at hb
    rcases hb with rfl | rfl | rfl | rfl
    · exact ⟨_, hz⟩
    · exact ⟨_, hTO⟩
    · exact ⟨_, h1⟩
    · exact ⟨_, h2⟩) (fun i vals h => by obtain ⟨x, y, _, _, rfl⟩ := h; rfl) x y px py pt k
end

end

section
open Sem (wp)

theorem typeCall_zip_3 (a b c : Value) : checkTypeCall "zip" ⟨[a, b, c], []⟩ = pure () := by kernel_rfl
theorem newCall_zip_3 (a b c : Value) : checkBuiltinCall "zip.__new__" ⟨[.type "zip", a, b, c], []⟩ = pure () := by kernel_rfl
theorem args_object_init_4 (a b c d : Value) : argsOk "object.__init__" ⟨[a, b, c, d], []⟩ := by
  unfold argsOk; rw [signature?_of (id := "object.__init__") (n := ['_', '_', 't', 'i', 'n', 'i', '_', '_']) (o := ['t', 'c', 'e', 'j', 'b', 'o']) (by kernel_rfl) F.owner_object]; kernel_rfl

abbrev IsTri (h : Heap) (T : Addr) (a b c : Value) : Prop := h.get? T = some { cls := .type "tuple", data := .seq #[a, b, c] }

structure Z3 (z TI TO i1 i2 i3 l1 l2 l3 : Addr) : Prop where
  TIz : TI ≠ z
  TOz : TO ≠ z
  i1z : i1 ≠ z
  i2z : i2 ≠ z
  i3z : i3 ≠ z
  TITO : TI ≠ TO
  TIi1 : TI ≠ i1
  TIi2 : TI ≠ i2
  TIi3 : TI ≠ i3
  TOi1 : TO ≠ i1
  TOi2 : TO ≠ i2
  TOi3 : TO ≠ i3
  i12 : i1 ≠ i2
  i13 : i1 ≠ i3
  i23 : i2 ≠ i3
  l1 : l1 ≠ z ∧ l1 ≠ TO ∧ l1 ≠ i1 ∧ l1 ≠ i2 ∧ l1 ≠ i3
  l2 : l2 ≠ z ∧ l2 ≠ TO ∧ l2 ≠ i1 ∧ l2 ≠ i2 ∧ l2 ≠ i3
  l3 : l3 ≠ z ∧ l3 ≠ TO ∧ l3 ≠ i1 ∧ l3 ≠ i2 ∧ l3 ≠ i3

section
variable {prog : Program} {w : World} {A : Around} {E : Value → Shared → Prop} {s : Shared}

theorem updateSeq_tri {T : Addr} {a b c x : Value} {k : Nat} {Q : Unit → Shared → Prop} (hT : IsTri s.heap T a b c)
    (h : ∀ h', h'.get? T = some { cls := .type "tuple", data := .seq ((#[a, b, c] : Array Value).setIfInBounds k x) } → Heap.SameBut T s.heap h' → Q () { s with heap := h' }) :
    wpAny (model prog w) A (updateSeq T (·.setIfInBounds k x)) Q E s := by
  refine wpAny_updateSeq hT rfl (h _ ?_ (Heap.SameBut.update ..))
  rw [Heap.get?_update_self _ hT rfl]
  simp [Obj.mapSeq]

theorem zip3_next_item {z TI TO i1 i2 i3 l1 l2 l3 : Addr} {k : Nat} {xs ys ws : Array Value} {x y v a b c : Value} {Q : Value → Shared → Prop} (D : Z3 z TI TO i1 i2 i3 l1 l2 l3)
    (hz : IsZip s.heap z TI TO .none) (hTI : IsTri s.heap TI (.ref i1) (.ref i2) (.ref i3)) (hTO : IsTri s.heap TO a b c)
    (h1 : s.heap.IsListIter i1 l1 k) (h2 : s.heap.IsListIter i2 l2 k) (h3 : s.heap.IsListIter i3 l3 k) (hl1 : s.heap.IsList l1 xs) (hl2 : s.heap.IsList l2 ys) (hl3 : s.heap.IsList l3 ws)
    (hx : xs[k]? = some x) (hy : ys[k]? = some y) (hv : ws[k]? = some v)
    (hQ : ∀ h', IsZip h' z TI TO (rawInt s.heap.objs.size) → IsTri h' TO x y v → h'.IsListIter i1 l1 (k + 1) → h'.IsListIter i2 l2 (k + 1) → h'.IsListIter i3 l3 (k + 1) → IsTri h' s.heap.objs.size x y v → h'.objs.size = s.heap.objs.size + 1 →
      (∀ c o, c ≠ z → c ≠ TO → c ≠ i1 → c ≠ i2 → c ≠ i3 → s.heap.get? c = some o → h'.get? c = some o) → Q (.ref s.heap.objs.size) { s with heap := h' }) :
    wpAny (model prog w) A (Builtin.«zip.__next__» ⟨[.ref z], []⟩) (fun fin s' => ∃ v, fin = .done (.ret v) ∧ Q v s') E s := by
  show wpAny _ _ (field (.ref z) 2 >>= _) _ _ _
  refine wpAny_bind (wpAny_field hz rfl (x := .bool false) rfl ?_)
  show wpAny _ _ (field (.ref z) 3 >>= _) _ _ _
  refine wpAny_bind (wpAny_field hz rfl (x := .ref TI) rfl ?_)
  refine wpAny_bind (wpAny_seqItems hTI rfl ?_)
  show wpAny _ _ (Builtin.SmallTypes.ownedTupleIsFree (.ref z) >>= _) _ _ _
  refine wpAny_bind ?_
  unfold Builtin.SmallTypes.ownedTupleIsFree
  refine wpAny_bind (wpAny_field hz rfl (x := .none) rfl (wpAny_pure ?_))
  simp only [if_true]
  refine wpAny_bind (wpAny_rule ?_)
  refine wpAny_bind (wpAny_field hz rfl (x := .ref TO) rfl ?_)
  refine wpAny_bind (wpAny_setField_rec hz (by simp) fun h₁ hz₁ hs₁ => ?_)
  replace hz₁ : IsZip h₁ z TI TO .ellipsis := hz₁
  refine wpAny_bind ?_
  simp only [List.zipIdx_cons, List.zipIdx_nil, List.forIn_cons, List.forIn_nil]
  refine wpAny_bind (wpAny_bind (wpAny_onRaise ?_))
  show wpAny _ _ (Builtin.SmallTypes.nextOf (.ref i1) >>= _) _ _ _
  refine wpAny_bind (wpAny_nextOf_list_item (h1.extBut hs₁.extBut D.i1z) (hl1.extBut hs₁.extBut D.l1.1) hx fun h₂ h1₂ hs₂ => wpAny_pure ?_)
  have hTO₂ : IsTri h₂ TO a b c := hs₂.extBut _ _ D.TOi1 (hs₁.extBut _ _ D.TOz hTO)
  refine wpAny_bind (wpAny_seqItems hTO₂ rfl ?_)
  refine wpAny_bind (updateSeq_tri hTO₂ fun h₃ hTO₃ hs₃ => ?_)
  replace hTO₃ : IsTri h₃ TO x b c := hTO₃
  refine wpAny_bind (wpAny_letGo (wpAny_pure ?_))
  refine wpAny_bind (wpAny_bind (wpAny_onRaise ?_))
  show wpAny _ _ (Builtin.SmallTypes.nextOf (.ref i2) >>= _) _ _ _
  refine wpAny_bind (wpAny_nextOf_list_item (((h2.extBut hs₁.extBut D.i2z).extBut hs₂.extBut D.i12.symm).extBut hs₃.extBut D.TOi2.symm)
    (((hl2.extBut hs₁.extBut D.l2.1).extBut hs₂.extBut D.l2.2.2.1).extBut hs₃.extBut D.l2.2.1) hy fun h₄ h2₄ hs₄ => wpAny_pure ?_)
  have hTO₄ : IsTri h₄ TO x b c := hs₄.extBut _ _ D.TOi2 hTO₃
  refine wpAny_bind (wpAny_seqItems hTO₄ rfl ?_)
  refine wpAny_bind (updateSeq_tri hTO₄ fun h₅ hTO₅ hs₅ => ?_)
  replace hTO₅ : IsTri h₅ TO x y c := hTO₅
  refine wpAny_bind (wpAny_letGo (wpAny_pure ?_))
  refine wpAny_bind (wpAny_bind (wpAny_onRaise ?_))
  show wpAny _ _ (Builtin.SmallTypes.nextOf (.ref i3) >>= _) _ _ _
  refine wpAny_bind (wpAny_nextOf_list_item (((((h3.extBut hs₁.extBut D.i3z).extBut hs₂.extBut D.i13.symm).extBut hs₃.extBut D.TOi3.symm).extBut hs₄.extBut D.i23.symm).extBut hs₅.extBut D.TOi3.symm)
    (((((hl3.extBut hs₁.extBut D.l3.1).extBut hs₂.extBut D.l3.2.2.1).extBut hs₃.extBut D.l3.2.1).extBut hs₄.extBut D.l3.2.2.2.1).extBut hs₅.extBut D.l3.2.1) hv fun h₆ h3₆ hs₆ => wpAny_pure ?_)
  have hTO₆ : IsTri h₆ TO x y c := hs₆.extBut _ _ D.TOi3 hTO₅
  refine wpAny_bind (wpAny_seqItems hTO₆ rfl ?_)
  refine wpAny_bind (updateSeq_tri hTO₆ fun h₇ hTO₇ hs₇ => ?_)
  replace hTO₇ : IsTri h₇ TO x y v := hTO₇
  refine wpAny_bind (wpAny_letGo (wpAny_pure (wpAny_pure ?_)))
  refine wpAny_bind (wpAny_seqItems hTO₇ rfl ?_)
  refine wpAny_bind (wpAny_newTuple ?_)
  have hsz : h₇.objs.size = s.heap.objs.size := by rw [hs₇.1, hs₆.1, hs₅.1, hs₄.1, hs₃.1, hs₂.1, hs₁.1]
  have up1 : ∀ q o, q ≠ TO → q ≠ i1 → q ≠ i2 → q ≠ i3 → h₁.get? q = some o → h₇.get? q = some o := fun q o c1 c2 c3 c4 e =>
    hs₇.extBut _ _ c1 (hs₆.extBut _ _ c4 (hs₅.extBut _ _ c1 (hs₄.extBut _ _ c3 (hs₃.extBut _ _ c1 (hs₂.extBut _ _ c2 e)))))
  have hz₅ : IsZip h₇ z TI TO .ellipsis := up1 _ _ D.TOz.symm D.i1z.symm D.i2z.symm D.i3z.symm hz₁
  have hk₅ : ∀ c o, c ≠ z → c ≠ TO → c ≠ i1 → c ≠ i2 → c ≠ i3 → s.heap.get? c = some o → h₇.get? c = some o := fun c o c1 c2 c3 c4 c5 e =>
    up1 c o c2 c3 c4 c5 (hs₁.extBut _ _ c1 e)
  have h1₅ : h₇.IsListIter i1 l1 (k + 1) := ((((h1₂.extBut hs₃.extBut D.TOi1.symm).extBut hs₄.extBut D.i12).extBut hs₅.extBut D.TOi1.symm).extBut hs₆.extBut D.i13).extBut hs₇.extBut D.TOi1.symm
  have h2₅ : h₇.IsListIter i2 l2 (k + 1) := ((h2₄.extBut hs₅.extBut D.TOi2.symm).extBut hs₆.extBut D.i23).extBut hs₇.extBut D.TOi2.symm
  have h3₅ : h₇.IsListIter i3 l3 (k + 1) := h3₆.extBut hs₇.extBut D.TOi3.symm
  have hzlt : z < h₇.objs.size := Heap.lt_size hz₅
  have hTOlt : TO < h₇.objs.size := Heap.lt_size hTO₇
  show wpAny _ _ (Builtin.SmallTypes.ownedTupleHandOut (.ref z) (.ref h₇.objs.size) >>= _) _ _ _
  refine wpAny_bind ?_
  unfold Builtin.SmallTypes.ownedTupleHandOut
  have hz₆ : IsZip (h₇.push { cls := .type "tuple", data := .seq #[x, y, v] }) z TI TO .ellipsis := Heap.get?_push_of_some _ hz₅
  refine wpAny_bind (wpAny_setField_rec hz₆ (by simp) fun h₈ hz₈ hs₈ => ?_)
  replace hz₈ : IsZip h₈ z TI TO (rawInt h₇.objs.size) := hz₈
  refine wpAny_setField_rec hz₈ (by simp) fun h₉ hz₉ hs₉ => ?_
  replace hz₉ : IsZip h₉ z TI TO (rawInt h₇.objs.size) := hz₉
  have up : ∀ c o, c ≠ z → h₇.get? c = some o → h₉.get? c = some o := fun c o c1 e => hs₉.extBut _ _ c1 (hs₈.extBut _ _ c1 (Heap.get?_push_of_some _ e))
  have hT₈ : IsTri h₉ h₇.objs.size x y v := hs₉.extBut _ _ (Nat.ne_of_gt hzlt) (hs₈.extBut _ _ (Nat.ne_of_gt hzlt) (Heap.get?_push_size _ rfl))
  have hz8 : h₉.objs.size = h₇.objs.size + 1 := by rw [hs₉.1, hs₈.1, Heap.size_push]
  rw [hsz] at hz₉ hT₈ hz8
  refine wpAny_pure ⟨_, rfl, ?_⟩
  show Q (.ref h₇.objs.size) _
  rw [hsz]
  exact hQ h₉ hz₉ (up _ _ D.TOz hTO₇) (h1₅.at fun o e => up _ o D.i1z e) (h2₅.at fun o e => up _ o D.i2z e) (h3₅.at fun o e => up _ o D.i3z e) hT₈ hz8 fun c o c1 c2 c3 c4 c5 e => up c o c1 (hk₅ c o c1 c2 c3 c4 c5 e)

theorem zip3_next_end {z TI TO i1 i2 i3 l1 l2 l3 : Addr} {k : Nat} {xs : Array Value} {a b c : Value} {Q : Fin → Shared → Prop} (hh : A.handled = none) (D : Z3 z TI TO i1 i2 i3 l1 l2 l3)
    (hz : IsZip s.heap z TI TO .none) (hTI : IsTri s.heap TI (.ref i1) (.ref i2) (.ref i3)) (hTO : IsTri s.heap TO a b c)
    (h1 : s.heap.IsListIter i1 l1 k) (hl1 : s.heap.IsList l1 xs) (hend : xs[k]? = none)
    (hE : ∀ h' e, (∀ c o, c ≠ z → c ≠ TO → c ≠ i1 → c ≠ i2 → c ≠ i3 → s.heap.get? c = some o → h'.get? c = some o) → (∃ o, h'.get? e = some o ∧ o.cls = .type "StopIteration") → E (.ref e) { s with heap := h' }) :
    wpAny (model prog w) A (Builtin.«zip.__next__» ⟨[.ref z], []⟩) Q E s := by
  show wpAny _ _ (field (.ref z) 2 >>= _) _ _ _
  refine wpAny_bind (wpAny_field hz rfl (x := .bool false) rfl ?_)
  show wpAny _ _ (field (.ref z) 3 >>= _) _ _ _
  refine wpAny_bind (wpAny_field hz rfl (x := .ref TI) rfl ?_)
  refine wpAny_bind (wpAny_seqItems hTI rfl ?_)
  show wpAny _ _ (Builtin.SmallTypes.ownedTupleIsFree (.ref z) >>= _) _ _ _
  refine wpAny_bind ?_
  unfold Builtin.SmallTypes.ownedTupleIsFree
  refine wpAny_bind (wpAny_field hz rfl (x := .none) rfl (wpAny_pure ?_))
  simp only [if_true]
  refine wpAny_bind (wpAny_rule ?_)
  refine wpAny_bind (wpAny_field hz rfl (x := .ref TO) rfl ?_)
  refine wpAny_bind (wpAny_setField_rec hz (by simp) fun h₁ hz₁ hs₁ => ?_)
  replace hz₁ : IsZip h₁ z TI TO .ellipsis := hz₁
  refine wpAny_bind ?_
  simp only [List.zipIdx_cons, List.zipIdx_nil, List.forIn_cons, List.forIn_nil]
  refine wpAny_bind (wpAny_bind (wpAny_onRaise ?_))
  show wpAny _ _ (Builtin.SmallTypes.nextOf (.ref i1) >>= _) _ _ _
  refine wpAny_bind (wpAny_nextOf_list_end hh (h1.extBut hs₁.extBut D.i1z) (hl1.extBut hs₁.extBut D.l1.1) hend fun h₂ e hs₂ he => ?_)
  obtain ⟨oe, hoe, hce⟩ := he
  have hz₂ : IsZip h₂ z TI TO .ellipsis := hs₂ _ _ D.i1z.symm hz₁
  have hez : e ≠ z := fun x => by subst x; rw [hz₂] at hoe; cases hoe; simp at hce
  exact wpAny_setField_rec hz₂ (by simp) fun h₃ _ hs₃ => hE h₃ e (fun c o c1 _ c3 _ _ x => hs₃.extBut _ _ c1 (hs₂ _ _ c3 (hs₁.extBut _ _ c1 x))) ⟨oe, hs₃.extBut _ _ hez hoe, hce⟩

abbrev zipG1 (h : Heap) (l1 : Addr) : Heap := h.push { cls := .type "list_iterator", data := .fields #[.ref l1, .int 0 0] }
abbrev zipG4 (h : Heap) (l1 l2 l3 : Addr) : Heap := (zipG1 (zipG1 (zipG1 h l1) l2) l3).push { cls := .type "tuple", data := .seq #[.ref h.objs.size, .ref (zipG1 h l1).objs.size, .ref (zipG1 (zipG1 h l1) l2).objs.size] }
abbrev zipG5 (h : Heap) (l1 l2 l3 : Addr) : Heap := (zipG4 h l1 l2 l3).push { cls := .type "tuple", data := .seq #[.none, .none, .none] }
abbrev zipG6 (h : Heap) (l1 l2 l3 : Addr) : Heap := (zipG5 h l1 l2 l3).push { cls := .type "zip", data := .fields #[.none, .bool false, .bool false, .ref (zipG1 (zipG1 (zipG1 h l1) l2) l3).objs.size, .ref (zipG4 h l1 l2 l3).objs.size] }

theorem meets_zip3_new (l1 l2 l3 : Addr) (xs ys ws : Array Value) :
    Meets (Builtin.«zip.__new__» ⟨[.type "zip", .ref l1, .ref l2, .ref l3], []⟩) (fun _ R s => s.heap.IsList l1 xs ∧ s.heap.IsList l2 ys ∧ s.heap.IsList l3 ws ∧
      R (.ok (.ret (.ref (zipG5 s.heap l1 l2 l3).objs.size))) { s with heap := zipG6 s.heap l1 l2 l3 }) :=
  .of_wp fun prog w A R s h => by
    obtain ⟨hp, g, d, tk, os⟩ := s; obtain ⟨hl1, hl2, hl3, h⟩ := h
    have hsub := sub_zip
    have hL1 : Heap.IsList (Shared.heap ⟨hp, g, d, tk, os⟩) l1 xs := hl1
    have hL2 : Heap.IsList (Shared.heap ⟨zipG1 hp l1, g, d, tk, os⟩) l2 ys := Heap.IsList.push hl2 _
    have hL3 : Heap.IsList (Shared.heap ⟨zipG1 (zipG1 hp l1) l2, g, d, tk, os⟩) l3 ws := Heap.IsList.push (Heap.IsList.push hl3 _) _
    wp_walk using wpAny_pyIter_list hL1, wpAny_pyIter_list hL2, wpAny_pyIter_list hL3
    exact ⟨_, rfl, h⟩

theorem call_zip_3 {l1 l2 l3 : Addr} {xs ys ws : Array Value} {Q : Value → Shared → Prop} (hl1 : s.heap.IsList l1 xs) (hl2 : s.heap.IsList l2 ys) (hl3 : s.heap.IsList l3 ws)
    (h : ∀ h', IsZip h' (s.heap.objs.size + 5) (s.heap.objs.size + 3) (s.heap.objs.size + 4) .none → IsTri h' (s.heap.objs.size + 3) (.ref s.heap.objs.size) (.ref (s.heap.objs.size + 1)) (.ref (s.heap.objs.size + 2)) →
      IsTri h' (s.heap.objs.size + 4) .none .none .none → h'.IsListIter s.heap.objs.size l1 0 → h'.IsListIter (s.heap.objs.size + 1) l2 0 → h'.IsListIter (s.heap.objs.size + 2) l3 0 → h'.objs.size = s.heap.objs.size + 6 →
      (∀ c o, s.heap.get? c = some o → h'.get? c = some o) → Q (.ref (s.heap.objs.size + 5)) { s with heap := h' }) :
    wpAny (model prog w) A (call (.type "zip") [.ref l1, .ref l2, .ref l3]) Q E s := by
  refine callType_new F.called_zip (by decide) (typeCall_zip_3 _ _ _) (newCall_zip_3 _ _ _) (fun obj => args_object_init_4 obj _ _ _) F.entry_zip_new
    (meets_zip3_new l1 l2 l3 xs ys ws) ⟨hl1, hl2, hl3, ?_⟩
  have z1 : (zipG1 s.heap l1).objs.size = s.heap.objs.size + 1 := Heap.size_push ..
  have z2 : (zipG1 (zipG1 s.heap l1) l2).objs.size = s.heap.objs.size + 2 := by rw [Heap.size_push, z1]
  have z3 : (zipG1 (zipG1 (zipG1 s.heap l1) l2) l3).objs.size = s.heap.objs.size + 3 := by rw [Heap.size_push, z2]
  have z4 : (zipG4 s.heap l1 l2 l3).objs.size = s.heap.objs.size + 4 := by rw [Heap.size_push, z3]
  have z5 : (zipG5 s.heap l1 l2 l3).objs.size = s.heap.objs.size + 5 := by rw [Heap.size_push, z4]
  have z6 : (zipG6 s.heap l1 l2 l3).objs.size = s.heap.objs.size + 6 := by rw [Heap.size_push, z5]
  have g6 : (zipG6 s.heap l1 l2 l3).get? (zipG5 s.heap l1 l2 l3).objs.size = some _ := Heap.get?_push_size _ rfl
  have g5 : (zipG6 s.heap l1 l2 l3).get? (zipG4 s.heap l1 l2 l3).objs.size = some _ := Heap.get?_push_of_some _ (Heap.get?_push_size _ rfl)
  have g4 : (zipG6 s.heap l1 l2 l3).get? (zipG1 (zipG1 (zipG1 s.heap l1) l2) l3).objs.size = some _ := Heap.get?_push_of_some _ (Heap.get?_push_of_some _ (Heap.get?_push_size _ rfl))
  have g3 : (zipG6 s.heap l1 l2 l3).get? (zipG1 (zipG1 s.heap l1) l2).objs.size = some _ := Heap.get?_push_of_some _ (Heap.get?_push_of_some _ (Heap.get?_push_of_some _ (Heap.get?_push_size _ rfl)))
  have g2 : (zipG6 s.heap l1 l2 l3).get? (zipG1 s.heap l1).objs.size = some _ := Heap.get?_push_of_some _ (Heap.get?_push_of_some _ (Heap.get?_push_of_some _ (Heap.get?_push_of_some _ (Heap.get?_push_size _ rfl))))
  have g1 : (zipG6 s.heap l1 l2 l3).get? s.heap.objs.size = some _ := Heap.get?_push_of_some _ (Heap.get?_push_of_some _ (Heap.get?_push_of_some _ (Heap.get?_push_of_some _ (Heap.get?_push_of_some _ (Heap.get?_push_size _ rfl)))))
  show _ ∧ _
  rw [z3, z4, z5] at g6
  rw [z4] at g5
  rw [z1, z2, z3] at g4
  rw [z2] at g3
  rw [z1] at g2
  rw [z5]
  exact ⟨⟨_, g6, rfl⟩, h _ g6 g4 g5 ⟨_, g1, rfl, rfl⟩ ⟨_, g2, rfl, rfl⟩ ⟨_, g3, rfl, rfl⟩ z6 fun c o x =>
    Heap.get?_push_of_some _ (Heap.get?_push_of_some _ (Heap.get?_push_of_some _ (Heap.get?_push_of_some _ (Heap.get?_push_of_some _ (Heap.get?_push_of_some _ x)))))⟩

theorem zip3_walks (hh : A.handled = none) (z TI TO i1 i2 i3 l1 l2 l3 : Addr) (D : Z3 z TI TO i1 i2 i3 l1 l2 l3) (xs ys ws : Array Value) (e1 : ys.size = xs.size) (e2 : ws.size = xs.size) :
    WalksT prog w A z [z, TI, TO, i1, i2, i3, l1, l2, l3] [z, TO, i1, i2, i3] xs.size
      (fun i vals => ∃ x y v, xs[i]? = some x ∧ ys[i]? = some y ∧ ws[i]? = some v ∧ vals = #[x, y, v])
      (fun i h => IsZip h z TI TO .none ∧ IsTri h TI (.ref i1) (.ref i2) (.ref i3) ∧ (∃ a b c, IsTri h TO a b c) ∧ h.IsListIter i1 l1 i ∧ h.IsListIter i2 l2 i ∧ h.IsListIter i3 l3 i ∧ h.IsList l1 xs ∧ h.IsList l2 ys ∧ h.IsList l3 ws)
      (fun i T h => IsZip h z TI TO (rawInt T) ∧ IsTri h TI (.ref i1) (.ref i2) (.ref i3) ∧ (∃ a b c, IsTri h TO a b c) ∧ h.IsListIter i1 l1 (i + 1) ∧ h.IsListIter i2 l2 (i + 1) ∧ h.IsListIter i3 l3 (i + 1) ∧ h.IsList l1 xs ∧ h.IsList l2 ys ∧ h.IsList l3 ws ∧
        T ≠ z ∧ T ≠ TO ∧ T ≠ i1 ∧ T ≠ i2 ∧ T ≠ i3) where
  sub := fun c hc => by simp at hc ⊢; rcases hc with rfl | rfl | rfl | rfl | rfl <;> simp
  frame := fun i h h' hst hk => by
    obtain ⟨hz, hTI, ⟨a, b, c, hTO⟩, h1, h2, h3, hl1, hl2, hl3⟩ := hst
    exact ⟨hk z (by simp) _ hz, hk TI (by simp) _ hTI, ⟨a, b, c, hk TO (by simp) _ hTO⟩, h1.at fun o e => hk i1 (by simp) o e, h2.at fun o e => hk i2 (by simp) o e, h3.at fun o e => hk i3 (by simp) o e,
      hl1.at fun o e => hk l1 (by simp) o e, hl2.at fun o e => hk l2 (by simp) o e, hl3.at fun o e => hk l3 (by simp) o e⟩
  item := fun i s Q E hi hst hQ => by
    obtain ⟨hz, hTI, ⟨a, b, c, hTO⟩, h1, h2, h3, hl1, hl2, hl3⟩ := hst
    have lt : ∀ {c o}, s.heap.get? c = some o → s.heap.objs.size ≠ c := fun e => Nat.ne_of_gt (Heap.lt_size e)
    have hT : s.TypeIs (.ref z) "zip" := ⟨_, hz, rfl⟩
    have hiy : i < ys.size := e1 ▸ hi
    have hiw : i < ws.size := e2 ▸ hi
    unfold pyNext
    refine wpAny_bind (wpAny_attempt (wpAny_callSpecial?_slot (name := Str.ofString "__next__") hT F.slot_zip_next
      (wpAny_call_entry F.slot_zip_next hT F.entry_zip_next
        (zip3_next_item D hz hTI hTO h1 h2 h3 hl1 hl2 hl3 (Array.getElem?_eq_getElem hi) (Array.getElem?_eq_getElem hiy) (Array.getElem?_eq_getElem hiw) fun h' a1 a2 a3 a4 a5 a6 a7 hk => wpAny_pure ?_) (F.args_zip_next_1 _))))
    exact hQ s.heap.objs.size #[xs[i], ys[i], ws[i]] h' s.toks ⟨_, _, _, Array.getElem?_eq_getElem hi, Array.getElem?_eq_getElem hiy, Array.getElem?_eq_getElem hiw, rfl⟩ (Nat.le_refl _) ⟨_, a6, rfl, _, rfl⟩
      ⟨a1, hk _ _ D.TIz D.TITO D.TIi1 D.TIi2 D.TIi3 hTI, ⟨_, _, _, a2⟩, a3, a4, a5, hl1.at fun o e => hk _ o D.l1.1 D.l1.2.1 D.l1.2.2.1 D.l1.2.2.2.1 D.l1.2.2.2.2 e,
        hl2.at fun o e => hk _ o D.l2.1 D.l2.2.1 D.l2.2.2.1 D.l2.2.2.2.1 D.l2.2.2.2.2 e, hl3.at fun o e => hk _ o D.l3.1 D.l3.2.1 D.l3.2.2.1 D.l3.2.2.2.1 D.l3.2.2.2.2 e,
        lt hz, lt hTO, (by obtain ⟨_, e, _⟩ := h1; exact lt e), (by obtain ⟨_, e, _⟩ := h2; exact lt e), (by obtain ⟨_, e, _⟩ := h3; exact lt e)⟩
      fun c o hc e => hk c o (fun x => hc (by simp [x])) (fun x => hc (by simp [x])) (fun x => hc (by simp [x])) (fun x => hc (by simp [x])) (fun x => hc (by simp [x])) e
  go := fun elts k pos i T s Q E hm hQ => by
    obtain ⟨hz, hTI, ⟨a, b, c, hTO⟩, h1, h2, h3, hl1, hl2, hl3, _⟩ := hm
    refine wpAny_letOwnedTupleGo_zip hz fun h' hz' hs' => hQ h' ⟨hz', hs'.extBut _ _ D.TIz hTI, ⟨a, b, c, hs'.extBut _ _ D.TOz hTO⟩, h1.extBut hs'.extBut D.i1z, h2.extBut hs'.extBut D.i2z, h3.extBut hs'.extBut D.i3z,
      hl1.extBut hs'.extBut D.l1.1, hl2.extBut hs'.extBut D.l2.1, hl3.extBut hs'.extBut D.l3.1⟩ fun c o hc e => hs'.extBut _ _ (fun x => hc (by simp [x])) e
  apart := fun i T h hm hT => by
    obtain ⟨_, _, _, _, _, _, _, _, _, t1, t2, t3, t4, t5⟩ := hm
    simp at hT
    rcases hT with rfl | rfl | rfl | rfl | rfl
    · exact t1 rfl
    · exact t2 rfl
    · exact t3 rfl
    · exact t4 rfl
    · exact t5 rfl
  done := fun s Q E hst hQ => by
    obtain ⟨hz, hTI, ⟨a, b, c, hTO⟩, h1, h2, h3, hl1, hl2, hl3⟩ := hst
    have hT : s.TypeIs (.ref z) "zip" := ⟨_, hz, rfl⟩
    unfold pyNext
    refine wpAny_bind (wpAny_attempt (wpAny_callSpecial?_slot (name := Str.ofString "__next__") hT F.slot_zip_next
      (wpAny_call_entry F.slot_zip_next hT F.entry_zip_next (zip3_next_end hh D hz hTI hTO h1 hl1 (Array.getElem?_eq_none (Nat.le_refl _)) fun h' e hk he => ?_) (F.args_zip_next_1 _))))
    obtain ⟨o, ho, hc⟩ := he
    refine wpAny_bind (wpAny_isInstance (T := "StopIteration") (b := true) ⟨o, ho, hc⟩ isSubtype_stop ?_)
    exact wpAny_pure (hQ h' s.toks fun c o hc e =>
      hk c o (fun x => hc (by simp [x])) (fun x => hc (by simp [x])) (fun x => hc (by simp [x])) (fun x => hc (by simp [x])) (fun x => hc (by simp [x])) e)
  self := fun i s Q E hst hQ => wpAny_pyIter_zip hst.1 hQ

variable {env : Env}
theorem Src.zip3 (hh : A.handled = none) (z TI TO i1 i2 i3 l1 l2 l3 : Addr) (D : Z3 z TI TO i1 i2 i3 l1 l2 l3) (xs ys ws : Array Value) (e1 : ys.size = xs.size) (e2 : ws.size = xs.size) (x y u : Str) (px py pu pt : Pos) (k : Nat) :
    Src prog w A (.Tuple [.Name x px, .Name y py, .Name u pu] k pt) (.ref z) [z, TI, TO, i1, i2, i3, l1, l2, l3] [z, TO, i1, i2, i3] xs.size [x, y, u]
      (fun i m m' => ∃ a b c, (∃ x y v, xs[i]? = some x ∧ ys[i]? = some y ∧ ws[i]? = some v ∧ #[a, b, c] = #[x, y, v]) ∧ m' = fun q => if q = u then some c else if q = y then some b else if q = x then some a else m q)
      (fun i h => IsZip h z TI TO .none ∧ IsTri h TI (.ref i1) (.ref i2) (.ref i3) ∧ (∃ a b c, IsTri h TO a b c) ∧ h.IsListIter i1 l1 i ∧ h.IsListIter i2 l2 i ∧ h.IsListIter i3 l3 i ∧ h.IsList l1 xs ∧ h.IsList l2 ys ∧ h.IsList l3 ws) :=
  Src.ofWalksT3 hh (zip3_walks hh z TI TO i1 i2 i3 l1 l2 l3 D xs ys ws e1 e2) (fun i h st b hb => by
    obtain ⟨hz, hTI, ⟨a, b', c, hTO⟩, ⟨o1, h1, _⟩, ⟨o2, h2, _⟩, ⟨o3, h3, _⟩, _⟩ := st
    simp at hb
    rcases hb with rfl | rfl | rfl | rfl | rfl
    · exact ⟨_, hz⟩
    · exact ⟨_, hTO⟩
    · exact ⟨_, h1⟩
    · exact ⟨_, h2⟩
    · exact ⟨_, h3⟩) (fun i vals h => by obtain ⟨x, y, v, _, _, _, rfl⟩ := h; rfl) x y u px py pu pt k
end

end

section

section
variable {prog : Program} {w : World} {A : Around} {E : Value → Shared → Prop} {s s' : Shared} {env : Env}
variable {h₀ : Heap} {L : Addr} {m : Str → Option Value} {news : List (Addr × Obj)}
variable {elt : Expr} {ifs : List Expr} {scope : Scope} {cl : List (Str × Addr)} {x y u : Str} {px py pu pt : Pos} {k : Nat} {J : CompJ} {R : CompJ → Nat → Prop}

theorem Kp.fresh (kp : Kp s s') {a : Addr} (ha : s'.heap.objs.size ≤ a) : s.heap.get? a = none := by
  cases e : s.heap.get? a with
  | none => rfl
  | some o => exact absurd (Heap.lt_size (kp.get e)) (Nat.not_lt.mpr ha)

theorem Kp.heap {h : Heap} (hk : ∀ b o, s.heap.get? b = some o → h.get? b = some o) : Kp s { s with heap := h } := ⟨h, s.toks, rfl, hk⟩

theorem lt_list {h : Heap} {l : Addr} {items : Array Value} (hl : h.IsList l items) : l < h.objs.size := by obtain ⟨o, e, _⟩ := hl; exact Heap.lt_size e

abbrev Turns (prog : Program) (w : World) (A : Around) (h₀ : Heap) (m : Str → Option Value) (news : List (Addr × Obj)) (env : Env) (elt : Expr) (ifs : List Expr) (scope : Scope) (cl : List (Str × Addr)) (s : Shared) (J : CompJ) (n : Nat)
    (V : Nat → (Str → Option Value) → (Str → Option Value) → Prop) : Prop :=
  ∀ Z i ys C h tk m m', i < n → J Z i ys h → ys.length ≤ i → V i m m' → Fr h₀ C h m' → News h₀ C h news → (∀ b o, s.heap.get? b = some o → h.get? b = some o) → (∀ b, Z b → ∃ o, h.get? b = some o) →
      CompTurnOk prog w A (compEnvC scope cl C env) ifs elt J Z i ys { s with heap := h, toks := tk }

theorem comp_enum {l : Addr} {items : Array Value} (hh : A.handled = none) (kp : Kp s s') (hL : s'.heap.IsList l items) (hsz : items.size ≤ sizeLine) (hx : ∀ z ∈ [x, y], scope.names.lookup z = some .local)
    (hm : ∀ Z i ys h h', J Z i ys h → (∀ b o, ¬ Z b → h.get? b = some o → h'.get? b = some o) → J Z i ys h') (hJ0 : ∀ Z h, J Z 0 [] h)
    (turn : Turns prog w A h₀ m news env elt ifs scope cl s J items.size (fun i m m' => ∃ t v, items[i]? = some v ∧ m' = fun z => if z = y then some v else if z = x then some (.int i t) else m z)) (hR : R J items.size) :
    wpAny (model prog w) A (call (.type "enumerate") [.ref l]) (fun xv s₁ => wpAny (model prog w) A (pyIter xv) (fun it s₂ => ∃ J n, CompReady prog w A h₀ L m news env (.Tuple [.Name x px, .Name y py] k pt) elt ifs scope cl s it s₂ J n ∧ R J n) E s₁) E s' := by
  refine call_enumerate_list hL fun h' he hi hs hk => ?_
  have hl := lt_list hL
  have n1 : s'.heap.objs.size + 1 ≠ s'.heap.objs.size := Nat.succ_ne_self _
  have W := Src.enumerate (prog := prog) (w := w) (A := A) hh (s'.heap.objs.size + 1) s'.heap.objs.size l n1 (Nat.ne_of_lt (Nat.lt_succ_of_lt hl)) (Nat.ne_of_lt hl) items x y px py pt k
  have st : (∃ old, IsEnum h' (s'.heap.objs.size + 1) s'.heap.objs.size 0 old) ∧ h'.IsListIter s'.heap.objs.size l 0 ∧ h'.IsList l items := ⟨⟨_, he⟩, hi, hL.at fun o e => hk _ _ e⟩
  refine W.self 0 _ _ _ st ⟨J, items.size, ⟨⟨_, _, _, _, _, W, hx, st, ?_, ?_, ?_⟩, kp.trans (Kp.heap hk), hsz, hm, hJ0⟩, hR⟩
  · intro b hb
    show b < h'.objs.size
    rw [hs]
    simp at hb
    rcases hb with rfl | rfl | rfl
    · exact Nat.lt_succ_self _
    · exact Nat.lt_succ_of_lt (Nat.lt_succ_self _)
    · exact Nat.lt_succ_of_lt (Nat.lt_succ_of_lt hl)
  · intro b hb
    simp at hb
    rcases hb with rfl | rfl
    · exact kp.fresh (Nat.le_succ _)
    · exact kp.fresh (Nat.le_refl _)
  · intro Z i ys C h tk m₁ m' hi hJ hy ⟨u, v, ⟨t, xx, hxx, e⟩, hm'⟩
    cases e
    exact turn Z i ys C h tk m₁ m' hi hJ hy ⟨t, v, hxx, hm'⟩

theorem comp_list {l : Addr} {items : Array Value} (hh : A.handled = none) (kp : Kp s s') (hL : s'.heap.IsList l items) (hsz : items.size ≤ sizeLine) (hx : ∀ z ∈ [x], scope.names.lookup z = some .local)
    (hm : ∀ Z i ys h h', J Z i ys h → (∀ b o, ¬ Z b → h.get? b = some o → h'.get? b = some o) → J Z i ys h') (hJ0 : ∀ Z h, J Z 0 [] h)
    (turn : Turns prog w A h₀ m news env elt ifs scope cl s J items.size (fun i m m' => ∃ v, items[i]? = some v ∧ m' = fun z => if z = x then some v else m z)) (hR : R J items.size) :
    wpAny (model prog w) A (pyIter (.ref l)) (fun it s₂ => ∃ J n, CompReady prog w A h₀ L m news env (.Name x px) elt ifs scope cl s it s₂ J n ∧ R J n) E s' := by
  refine wpAny_pyIter_list hL ?_
  have hl := lt_list hL
  have W := Src.list (prog := prog) (w := w) (A := A) hh s'.heap.objs.size l (Nat.ne_of_lt hl) items x px
  have hk : ∀ b o, s'.heap.get? b = some o → (s'.heap.push { cls := .type "list_iterator", data := .fields #[.ref l, .int 0 0] }).get? b = some o := fun b o e => Heap.get?_push_of_some _ e
  have st : (s'.heap.push { cls := .type "list_iterator", data := .fields #[.ref l, .int 0 0] }).IsListIter s'.heap.objs.size l 0 ∧ (s'.heap.push { cls := .type "list_iterator", data := .fields #[.ref l, .int 0 0] }).IsList l items :=
    ⟨⟨_, Heap.get?_push_size _ rfl, rfl, rfl⟩, hL.at fun o e => hk _ _ e⟩
  refine ⟨J, items.size, ⟨⟨_, _, _, _, _, W, hx, st, ?_, ?_, turn⟩, kp.trans (Kp.heap hk), hsz, hm, hJ0⟩, hR⟩
  · intro b hb
    show b < (s'.heap.push _).objs.size
    rw [Heap.size_push]
    simp at hb
    rcases hb with rfl | rfl
    · exact Nat.lt_succ_self _
    · exact Nat.lt_succ_of_lt hl
  · intro b hb
    rw [List.mem_singleton.mp hb]
    exact kp.fresh (Nat.le_refl _)

theorem comp_zip2 {l1 l2 : Addr} {xs ys : Array Value} (hh : A.handled = none) (kp : Kp s s') (hL1 : s'.heap.IsList l1 xs) (hL2 : s'.heap.IsList l2 ys) (e1 : ys.size = xs.size) (hsz : xs.size ≤ sizeLine) (hx : ∀ z ∈ [x, y], scope.names.lookup z = some .local)
    (hm : ∀ Z i ys h h', J Z i ys h → (∀ b o, ¬ Z b → h.get? b = some o → h'.get? b = some o) → J Z i ys h') (hJ0 : ∀ Z h, J Z 0 [] h)
    (turn : Turns prog w A h₀ m news env elt ifs scope cl s J xs.size (fun i m m' => ∃ v v', xs[i]? = some v ∧ ys[i]? = some v' ∧ m' = fun z => if z = y then some v' else if z = x then some v else m z)) (hR : R J xs.size) :
    wpAny (model prog w) A (call (.type "zip") [.ref l1, .ref l2]) (fun xv s₁ => wpAny (model prog w) A (pyIter xv) (fun it s₂ => ∃ J n, CompReady prog w A h₀ L m news env (.Tuple [.Name x px, .Name y py] k pt) elt ifs scope cl s it s₂ J n ∧ R J n) E s₁) E s' := by
  refine call_zip_2 hL1 hL2 fun h' hz hTI hTO hi1 hi2 hs hk => ?_
  have hl1 := lt_list hL1
  have hl2 := lt_list hL2
  generalize hN : s'.heap.objs.size = N at *
  have ne : ∀ {a b : Nat}, a < b → b ≠ a ∧ a ≠ b := fun h => ⟨Nat.ne_of_gt h, Nat.ne_of_lt h⟩
  have lt1 : N < N + 1 := Nat.lt_succ_self _
  have lt2 : ∀ {a b : Nat}, a < b → N + a < N + b := fun h => Nat.add_lt_add_left h N
  have D : ZipApart (N + 4) (N + 2) (N + 3) N (N + 1) l1 l2 := ⟨(ne (lt2 (by decide))).2, (ne (lt2 (by decide))).2, (ne (lt2 (a := 0) (by decide))).2, (ne (lt2 (by decide))).2, (ne (lt2 (by decide))).2, (ne (lt2 (a := 0) (by decide))).1, (ne (lt2 (by decide))).1,
    (ne (lt2 (a := 0) (by decide))).1, (ne (lt2 (by decide))).1, (ne (lt2 (a := 0) (by decide))).2, (ne (Nat.lt_add_right 4 hl1)).2, (ne (Nat.lt_add_right 3 hl1)).2, (ne hl1).2, (ne (Nat.lt_add_right 1 hl1)).2, (ne (Nat.lt_add_right 4 hl2)).2, (ne (Nat.lt_add_right 3 hl2)).2, (ne hl2).2, (ne (Nat.lt_add_right 1 hl2)).2⟩
  have W := Src.zip2 (prog := prog) (w := w) (A := A) hh (N + 4) (N + 2) (N + 3) N (N + 1) l1 l2 D xs ys x y px py pt k
  have em : min xs.size ys.size = xs.size := by rw [e1, Nat.min_self]
  rw [em] at W
  have st : IsZip h' (N + 4) (N + 2) (N + 3) .none ∧ IsPair h' (N + 2) (.ref N) (.ref (N + 1)) ∧ (∃ a b, IsPair h' (N + 3) a b) ∧ h'.IsListIter N l1 0 ∧ h'.IsListIter (N + 1) l2 0 ∧ h'.IsList l1 xs ∧ h'.IsList l2 ys :=
    ⟨hz, hTI, ⟨_, _, hTO⟩, hi1, hi2, hL1.at fun o e => hk _ _ e, hL2.at fun o e => hk _ _ e⟩
  refine W.self 0 _ _ _ st ⟨J, xs.size, ⟨⟨_, _, _, _, _, W, hx, st, ?_, ?_, ?_⟩, kp.trans (Kp.heap hk), hsz, hm, hJ0⟩, hR⟩
  · intro b hb
    show b < h'.objs.size
    rw [hs]
    simp at hb
    rcases hb with rfl | rfl | rfl | rfl | rfl | rfl | rfl
    · exact lt2 (by decide)
    · exact lt2 (by decide)
    · exact lt2 (by decide)
    · exact lt2 (a := 0) (by decide)
    · exact lt2 (by decide)
    · exact Nat.lt_add_right 5 hl1
    · exact Nat.lt_add_right 5 hl2
  · intro b hb
    simp at hb
    have fr : ∀ j, s.heap.get? (N + j) = none := fun j => kp.fresh (by rw [hN]; exact Nat.le_add_right N j)
    rcases hb with rfl | rfl | rfl | rfl
    · exact fr 4
    · exact fr 3
    · exact fr 0
    · exact fr 1
  · intro Z i ys C h tk m₁ m' hi hJ hy ⟨u, v, ⟨x1, y1, a1, a2, e⟩, hm'⟩
    cases e
    exact turn Z i ys C h tk m₁ m' hi hJ hy ⟨u, v, a1, a2, hm'⟩

theorem comp_zip3 {l1 l2 l3 : Addr} {xs ys ws : Array Value} (hh : A.handled = none) (kp : Kp s s') (hL1 : s'.heap.IsList l1 xs) (hL2 : s'.heap.IsList l2 ys) (hL3 : s'.heap.IsList l3 ws) (e1 : ys.size = xs.size) (e2 : ws.size = xs.size) (hsz : xs.size ≤ sizeLine) (hx : ∀ z ∈ [x, y, u], scope.names.lookup z = some .local)
    (hm : ∀ Z i ys h h', J Z i ys h → (∀ b o, ¬ Z b → h.get? b = some o → h'.get? b = some o) → J Z i ys h') (hJ0 : ∀ Z h, J Z 0 [] h)
    (turn : Turns prog w A h₀ m news env elt ifs scope cl s J xs.size (fun i m m' => ∃ v v' v'', xs[i]? = some v ∧ ys[i]? = some v' ∧ ws[i]? = some v'' ∧ m' = fun z => if z = u then some v'' else if z = y then some v' else if z = x then some v else m z)) (hR : R J xs.size) :
    wpAny (model prog w) A (call (.type "zip") [.ref l1, .ref l2, .ref l3]) (fun xv s₁ => wpAny (model prog w) A (pyIter xv) (fun it s₂ => ∃ J n, CompReady prog w A h₀ L m news env (.Tuple [.Name x px, .Name y py, .Name u pu] k pt) elt ifs scope cl s it s₂ J n ∧ R J n) E s₁) E s' := by
  refine call_zip_3 hL1 hL2 hL3 fun h' hz hTI hTO hi1 hi2 hi3 hs hk => ?_
  have hl1 := lt_list hL1
  have hl2 := lt_list hL2
  have hl3 := lt_list hL3
  generalize hN : s'.heap.objs.size = N at *
  have ne : ∀ {a b : Nat}, a < b → b ≠ a ∧ a ≠ b := fun h => ⟨Nat.ne_of_gt h, Nat.ne_of_lt h⟩
  have lt1 : N < N + 1 := Nat.lt_succ_self _
  have lt2 : ∀ {a b : Nat}, a < b → N + a < N + b := fun h => Nat.add_lt_add_left h N
  have low : ∀ {l : Nat}, l < N → l ≠ N + 5 ∧ l ≠ N + 4 ∧ l ≠ N ∧ l ≠ N + 1 ∧ l ≠ N + 2 := fun h => ⟨(ne (Nat.lt_add_right 5 h)).2, (ne (Nat.lt_add_right 4 h)).2, (ne h).2, (ne (Nat.lt_add_right 1 h)).2, (ne (Nat.lt_add_right 2 h)).2⟩
  have D : Z3 (N + 5) (N + 3) (N + 4) N (N + 1) (N + 2) l1 l2 l3 := ⟨(ne (lt2 (by decide))).2, (ne (lt2 (by decide))).2, (ne (lt2 (a := 0) (by decide))).2, (ne (lt2 (by decide))).2, (ne (lt2 (by decide))).2, (ne (lt2 (by decide))).2, (ne (lt2 (a := 0) (by decide))).1, (ne (lt2 (by decide))).1, (ne (lt2 (by decide))).1,
    (ne (lt2 (a := 0) (by decide))).1, (ne (lt2 (by decide))).1, (ne (lt2 (by decide))).1, (ne (lt2 (a := 0) (by decide))).2, (ne (lt2 (a := 0) (by decide))).2, (ne (lt2 (by decide))).2, low hl1, low hl2, low hl3⟩
  have W := Src.zip3 (prog := prog) (w := w) (A := A) hh (N + 5) (N + 3) (N + 4) N (N + 1) (N + 2) l1 l2 l3 D xs ys ws e1 e2 x y u px py pu pt k
  have st : IsZip h' (N + 5) (N + 3) (N + 4) .none ∧ IsTri h' (N + 3) (.ref N) (.ref (N + 1)) (.ref (N + 2)) ∧ (∃ a b c, IsTri h' (N + 4) a b c) ∧ h'.IsListIter N l1 0 ∧ h'.IsListIter (N + 1) l2 0 ∧ h'.IsListIter (N + 2) l3 0 ∧ h'.IsList l1 xs ∧ h'.IsList l2 ys ∧ h'.IsList l3 ws :=
    ⟨hz, hTI, ⟨_, _, _, hTO⟩, hi1, hi2, hi3, hL1.at fun o e => hk _ _ e, hL2.at fun o e => hk _ _ e, hL3.at fun o e => hk _ _ e⟩
  refine W.self 0 _ _ _ st ⟨J, xs.size, ⟨⟨_, _, _, _, _, W, hx, st, ?_, ?_, ?_⟩, kp.trans (Kp.heap hk), hsz, hm, hJ0⟩, hR⟩
  · intro b hb
    show b < h'.objs.size
    rw [hs]
    simp at hb
    rcases hb with rfl | rfl | rfl | rfl | rfl | rfl | rfl | rfl | rfl
    · exact lt2 (by decide)
    · exact lt2 (by decide)
    · exact lt2 (by decide)
    · exact lt2 (a := 0) (by decide)
    · exact lt2 (by decide)
    · exact lt2 (by decide)
    · exact Nat.lt_add_right 6 hl1
    · exact Nat.lt_add_right 6 hl2
    · exact Nat.lt_add_right 6 hl3
  · intro b hb
    simp at hb
    have fr : ∀ j, s.heap.get? (N + j) = none := fun j => kp.fresh (by rw [hN]; exact Nat.le_add_right N j)
    rcases hb with rfl | rfl | rfl | rfl | rfl
    · exact fr 5
    · exact fr 4
    · exact fr 0
    · exact fr 1
    · exact fr 2
  · intro Z i ys C h tk m₁ m' hi hJ hy ⟨a, b, c, ⟨x1, y1, z1, a1, a2, a3, e⟩, hm'⟩
    cases e
    exact turn Z i ys C h tk m₁ m' hi hJ hy ⟨a, b, c, a1, a2, a3, hm'⟩

/-- a local name of a comprehension's own frame -/
theorem lc_local {M : Model} {A : Around} {C : Addr} {h₀ : Heap} {m' : Str → Option Value} {v : Value} {x : Str} {pos : Pos} {Q : Value → Shared → Prop}
    (F : Fr h₀ C s.heap m') (hk : (compEnvC scope cl C env).scope.kind = .function) (hx : (compEnvC scope cl C env).kindOf x = some .local) (hv : m' x = some v) (h : Q v s)
    (hb : (x == ("__debug__" : Str)) = false := by decide) : wpAny M A (eval (.Name x pos) (compEnvC scope cl C env)) Q E s := wpAny_Name (wpAny_loadName_local hk hx F.ns hv h) hb
end

end

section

theorem pick_take (vs : List Value) (i : Nat) : slicePick vs.toArray none (some (i : Int)) none = (vs.take i).toArray := by
  have e : sliceBounds none (some (i : Int)) none vs.toArray.size = (((0 : Nat) : Int), ((min i vs.toArray.size : Nat) : Int), 1) := by
    simp only [sliceBounds, Option.getD_none, show (1 : Int) > 0 by decide, if_true, if_neg (show ¬ ((i : Int) < 0) by omega)]
    congr 1
    congr 1
    omega
  rw [kmk_pick_nat _ e]
  show ((vs.drop 0).take (min i vs.toArray.size - 0)).toArray = _
  rw [List.drop_zero, Nat.sub_zero, List.size_toArray, kmk_take_min]

section
variable {prog : Program} {w : World} {A : Around} {E : Value → Shared → Prop} {s : Shared}
theorem count_strs {l : Addr} {vs : List Value} {ys : List Str} {k : Str} {t : Tok} {Q : Value → Shared → Prop}
    (hl : s.heap.IsList l vs.toArray) (hi : StrsAre vs ys)
    (h : Q (.int (ys.count k) s.toks) { s with toks := s.toks + 1 }) : wpAny (model prog w) A (call (.builtin "list.count") [.ref l, .str k t]) Q E s := by
  refine count_list_strs hl hi ?_
  rw [cnt_strs]
  exact h
end

/-- a plain list made by the program -/
def IsL (h : Heap) (l : Addr) (vs : List Value) : Prop := ∃ e, h.get? l = some { cls := .type "list", data := .seq vs.toArray e }
theorem IsL.list {h : Heap} {l : Addr} {vs : List Value} (x : IsL h l vs) : h.IsList l vs.toArray := by obtain ⟨e, x⟩ := x; exact ⟨_, x, rfl, e, rfl⟩
theorem IsL.nodict {h : Heap} {l : Addr} {vs : List Value} (x : IsL h l vs) : h.NoDictAt (.ref l) := by obtain ⟨e, x⟩ := x; exact ⟨_, x, rfl⟩
theorem IsL.keep {h h' : Heap} {l : Addr} {vs : List Value} (x : IsL h l vs) (k : ∀ b o, h.get? b = some o → h'.get? b = some o) : IsL h' l vs := by obtain ⟨e, x⟩ := x; exact ⟨e, k _ _ x⟩
theorem IsL.fr {h₀ h : Heap} {L l : Addr} {m : Str → Option Value} {vs : List Value} (F : Fr h₀ L h m) (x : IsL h₀ l vs) : IsL h l vs := x.keep F.keep
theorem IsL.news {h₀ h : Heap} {L l : Addr} {news : List (Addr × Obj)} {vs : List Value} {e : Nat} (N : News h₀ L h news) (hm : (l, { cls := .type "list", data := .seq vs.toArray e }) ∈ news) : IsL h l vs := ⟨e, N.get hm⟩
theorem IsL.size {h : Heap} {l : Addr} {vs : List Value} (x : IsL h l vs) : l < h.objs.size := by obtain ⟨e, x⟩ := x; exact Heap.lt_size x

section
variable {prog : Program} {w : World} {A : Around} {E : Value → Shared → Prop} {s : Shared} {h₀ : Heap} {L : Addr} {m : Str → Option Value} {news : List (Addr × Obj)}
theorem slice_upto {value slice : Expr} {l : Addr} {vs : List Value} {i : Nat} {t : Tok} {Q : Value → Shared → Prop}
    (F : Fr h₀ L s.heap m) (N : News h₀ L s.heap news) (hl : s.heap.IsList l vs.toArray)
    (h : ∀ h', Fr h₀ L h' m → News h₀ L h' ((s.heap.objs.size + 1, { cls := .type "list", data := .seq (vs.take i).toArray }) :: news) → (∀ b o, s.heap.get? b = some o → h'.get? b = some o) → Q (.ref (s.heap.objs.size + 1)) { s with heap := h' })
    (hs : subscripted slice false (.ref l) (.ref s.heap.objs.size) = operate [.ref s.heap.objs.size, .ref l] (getItem (.ref l) (.ref s.heap.objs.size)) := by with_unfolding_all rfl)
    (ht : ∀ r, letTemporaryGo value (.ref l) r = pure () := by intro _; with_unfolding_all rfl)
    (hsz : vs.toArray.size ≤ sizeLine := by size_fits) :
    wpAny (model prog w) A (subscriptTail value slice (.ref l) (.ref s.heap.objs.size)) Q E { s with heap := s.heap.push { cls := .type "slice", data := .fields #[.none, .int (i : Int) t, .none] } } := by
  refine slice_listK hl .none (.int _ _) ?_ hs ht hsz
  rw [pick_take]
  have N1 := News.push (F.push { cls := .type "slice", data := .fields #[.none, .int (i : Int) t, .none] }) (N.grown fun _ _ e => Heap.get?_push_of_some _ e) { cls := .type "list", data := .seq (vs.take i).toArray }
  rw [Heap.size_push] at N1
  exact h _ ((F.push _).push _) N1 fun b o e => Heap.get?_push_of_some _ (Heap.get?_push_of_some _ e)

theorem newTuple_K {items : List Value} {Q : Value → Shared → Prop} (F : Fr h₀ L s.heap m) (N : News h₀ L s.heap news) (hsz : items.length ≤ sizeLine)
    (h : ∀ h', Fr h₀ L h' m → News h₀ L h' ((s.heap.objs.size, { cls := .type "tuple", data := .seq items.toArray }) :: news) → (∀ b o, s.heap.get? b = some o → h'.get? b = some o) → Q (.ref s.heap.objs.size) { s with heap := h' }) :
    wpAny (model prog w) A (newTuple items) Q E s :=
  wpAny_newTuple (h _ (F.push _) (News.push F N _) fun b o e => Heap.get?_push_of_some _ e) hsz
end
theorem Kp.mk {s : Shared} {h : Heap} {tk : Nat} (hk : ∀ b o, s.heap.get? b = some o → h.get? b = some o) : Kp s { s with heap := h, toks := tk } := ⟨h, tk, rfl, hk⟩

end

section

section
variable {prog : Program} {w : World} {A : Around} {s : Shared} {R : Result → Shared → Prop} {name qual : Str} {params : Arguments} {body : List Stmt} {scope : Scope} {dV kV doc pm cdv ct oc : Value} {an od : Option Addr} {osl : Array (Option Value)} {f : Addr} {args : Args} {binds : List (Str × Value)} {K : Frag}

/-- the call of a generator function: nothing runs yet -/
theorem enter_gen (X : K.In s.heap) (hlim : s.heap.NoLimit)
    (ho : K.lookup f = some ⟨oc, od, .func (fnOf name qual params body scope dV kV doc pm an cdv ct), osl⟩) (hcd : codeIn K cdv qual = true) (hroom : A.depth < recursionLimit)
    (hbind : BindsTo s (fnOf name qual params body scope dV kV doc pm an cdv ct) args binds) (hloc : ∀ y ∈ binds, scope.names.lookup y.1 = some .local)
    (h : ∀ h₁ tk, Fr s.heap s.heap.objs.size h₁ (fun y => binds.reverse.lookup y) → h₁.objs.size = s.heap.objs.size + 2 → h₁.IsGen (s.heap.objs.size + 1) s.gens.size → h₁.NoLimit →
      R (.ok (.ret (.ref (s.heap.objs.size + 1)))) { s with heap := h₁, gens := s.gens.push (.fresh (.func body (envOf qual scope s.heap.objs.size f cdv))), toks := tk })
    (hcell : ∀ x ∈ scope.names, x.2 ≠ .cell) (hco : scope.isCoroutine = false) (hgen : scope.isGenerator = true) (hk : scope.kind = .function) : codeAny (model prog w) A (.call (.ref f) args) R s := by
  refine codeAny_call_generator (fd := fnOf name qual params body scope dV kV doc pm an cdv ct) (body := body) hroom (X _ _ ho) rfl hco hgen rfl (codeRec_of X hcd) (hbind _ _ _ _ ?_)
  refine wpAny_newFunctionEnv hcell hloc (fun h₁ hns₁ hsb₁ => ⟨hlim.fresh _ hsb₁, ?_⟩) hk
  have hsz : h₁.objs.size = s.heap.objs.size + 1 := by rw [hsb₁.1, Heap.size_push]
  have hk₁ : ∀ b o, s.heap.get? b = some o → h₁.get? b = some o := fun b o e => hsb₁.extBut b o (Nat.ne_of_lt (Heap.lt_size e)) (Heap.get?_push_of_some _ e)
  have := h (h₁.push { cls := .type "generator", data := .fields #[.int s.gens.size 0, .str name (s.toks + binds.length), .str qual (s.toks + binds.length + 1)] }) (s.toks + binds.length + 1 + 1)
    ⟨hns₁.keeps fun b o e => Heap.get?_push_of_some _ e, fun b o e => Heap.get?_push_of_some _ (hk₁ b o e), Nat.le_refl _⟩ (by rw [Heap.size_push, hsz]) (by rw [← hsz]; exact ⟨_, _, _, Heap.get?_push_size _ rfl, rfl, rfl, rfl⟩)
    ((hlim.fresh _ hsb₁).keeps fun b o e => Heap.get?_push_of_some _ e)
  rw [← hsz] at this
  exact this
end

/-- what list() draws from a generator: the rest of the heap stands still but for the list S -/
structure GSrc (prog : Program) (w : World) (A : Around) (g S : Addr) (n : Nat) (P : Nat → Value → Prop) (St : Nat → Shared → Prop) (Fin : Shared → Prop) : Prop where
  gen : ∀ i s, St i s → ∃ k, s.heap.IsGen g k
  upd : ∀ i s h', St i s → (∀ b o, b ≠ S → s.heap.get? b = some o → h'.get? b = some o) → (∃ o, h'.get? S = some o) → St i { s with heap := h' }
  item : ∀ i (s : Shared) o (Q : Option Value → Shared → Prop) (E : Value → Shared → Prop), i < n → St i s → s.heap.get? S = some o →
    (∀ v s', P i v → St (i + 1) s' → s'.heap.get? S = some o → Q (some v) s') → wpAny (model prog w) A (pyNext (.ref g)) Q E s
  done : ∀ (s : Shared) o (Q : Option Value → Shared → Prop) (E : Value → Shared → Prop), St n s → s.heap.get? S = some o →
    (∀ s', Fin s' → s'.heap.get? S = some o → Q none s') → wpAny (model prog w) A (pyNext (.ref g)) Q E s

section
variable {prog : Program} {w : World} {A : Around} {R : Result → Shared → Prop} {g : Addr} {n : Nat} {P : Nat → Value → Prop} {St : Nat → Shared → Prop} {Fin : Shared → Prop} {S : Addr}

theorem gs_loop (W : GSrc prog w A.in1 g S n P St Fin) (hn : n ≤ sizeLine) (res : Value) :
    ∀ (k i : Nat) (s : Shared) (acc : Array Value) (c : Nat), n - i = k → i ≤ n → St i s → s.heap.get? S = some { cls := .type "list", dict := none, data := .seq acc c, slots := #[] } → ItemsOf P acc i →
    (∀ s' acc' c', Fin s' → s'.heap.get? S = some { cls := .type "list", dict := none, data := .seq acc' c', slots := #[] } → ItemsOf P acc' n → R (.ok (.ret res)) s') →
    codeAny (model prog w) A (.builtin "list.extend.loop" ⟨[.ref S, .ref g, res], []⟩) R s := by
  intro k
  induction k with
  | zero =>
    intro i s acc c hk hi hst hS hacc hR
    have hin : i = n := by omega
    subst hin
    refine codeAny_builtin F.entry_extend_loop ?_
    rw [Around.under_plainId F.plain_extend_loop _]
    show wpAny _ A.in1 (pyNext (.ref g) >>= _) _ _ s
    refine wpAny_bind (W.done s _ _ _ hst hS fun s' hf hS' => ?_)
    exact wpAny_pure (hR s' acc c hf hS' hacc)
  | succ k ih =>
    intro i s acc c hk hi hst hS hacc hR
    have hlt : i < n := by omega
    refine codeAny_builtin F.entry_extend_loop ?_
    rw [Around.under_plainId F.plain_extend_loop _]
    show wpAny _ A.in1 (pyNext (.ref g) >>= _) _ _ s
    refine wpAny_bind (W.item i s _ _ _ hlt hst hS fun v s' hP hst' hS' => ?_)
    show wpAny _ A.in1 (updateSeq S (·.push v) >>= _) _ _ _
    refine wpAny_bind ?_
    refine wpAny_updateSeq hS' rfl (wpAny_pure ⟨plainId_quiet F.plain_extend_loop _, ih (i + 1) _ (acc.push v) _ (by omega) hlt (W.upd _ s' _ hst' (fun b o hb e => ?_) ⟨_, Heap.get?_update_self _ hS' rfl⟩) (Heap.get?_update_self _ hS' rfl) (hacc.push hP) hR⟩)
      (by rw [hacc.1]; omega) (by show (acc.push v).size ≤ sizeLine + 1; rw [Array.size_push, hacc.1]; omega)
    exact (Heap.get?_update_other _ _ (Ne.symm hb)).trans e

theorem gs_extend {s : Shared} (W : GSrc prog w A.in1 g S n P St Fin) (res : Value) (c₀ : Nat) (hst : St 0 s) (hSg : S ≠ g)
    (hS : s.heap.get? S = some { cls := .type "list", data := .seq #[] c₀ })
    (hR : ∀ s' acc' c', Fin s' → s'.heap.get? S = some { cls := .type "list", dict := none, data := .seq acc' c', slots := #[] } → ItemsOf P acc' n → R (.ok (.ret res)) s') (hn : n ≤ sizeLine) :
    wpAny (model prog w) A.in1 (Builtin.List.listExtendWith (.ref S) (.ref g) res)
      (fun fin s' => match fin with | .done f => R (.ok f) s' | .again c' => c'.quiet = true ∧ codeAny (model prog w) A c' R s') (fun e s' => R (.error e) s') s := by
  obtain ⟨k, hg⟩ := W.gen 0 s hst
  have hT := hg.typeIs
  unfold Builtin.List.listExtendWith
  refine wpAny_bind (wpAny_typeOf hT ?_)
  have h1 : Builtin.List.listSameRef (.ref S) (.ref g) = false := by simp [Builtin.List.listSameRef, hSg]
  have h2 : (Value.type "generator" == Value.type "list") = false := by decide
  have h3 : (Value.type "generator" == Value.type "tuple") = false := by decide
  simp only [h1, h2, h3, Bool.or_false, Bool.false_eq_true, if_false]
  refine wpAny_bind (wpAny_pyIter_gen hg ?_)
  refine wpAny_bind (wpAny_holding ?_)
  unfold Builtin.List.listLengthHint
  refine wpAny_bind (wpAny_specialOf hT F.gen_no_len ?_)
  show wpAny _ A.in1 (specialOf (Value.ref g) (Str.ofString "__length_hint__") >>= _) _ _ _
  refine wpAny_bind (wpAny_specialOf hT F.gen_no_hint ?_)
  refine wpAny_pure ?_
  show wpAny _ A.in1 (rule "list.extend.makes-room" >>= fun _ => Builtin.List.listTouch (.ref S) >>= fun _ =>
    again (.builtin "list.extend.loop" ⟨[.ref S, .ref g, res], []⟩)) _ _ _
  refine wpAny_bind (wpAny_rule ?_)
  refine wpAny_bind ?_
  show wpAny _ A.in1 (updateSeq S (·.push .none) >>= fun _ => updateSeq S (·.pop)) _ _ _
  refine wpAny_bind (wpAny_updateSeq hS rfl ?_)
  have hS₂ := Heap.get?_update_self (Obj.mapSeq (·.push Value.none)) hS rfl
  refine wpAny_updateSeq (hz := by seq_fits) hS₂ rfl ?_
  have hS₃ := Heap.get?_update_self (Obj.mapSeq (·.pop)) hS₂ rfl
  have oth : ∀ b o, b ≠ S → s.heap.get? b = some o → ((s.heap.update S (Obj.mapSeq (·.push Value.none))).update S (Obj.mapSeq (·.pop))).get? b = some o :=
    fun b o hb e => (Heap.get?_update_other _ _ (Ne.symm hb)).trans ((Heap.get?_update_other _ _ (Ne.symm hb)).trans e)
  exact wpAny_pure ⟨plainId_quiet F.plain_extend_loop _, gs_loop W hn _ n 0 _ _ _ rfl (Nat.zero_le _) (W.upd 0 s _ hst oth ⟨_, hS₃⟩) hS₃ (ItemsOf.nil P) hR⟩

theorem gs_init {s : Shared} (W : GSrc prog w A.in1 g S n P St Fin) (hst : St 0 s) (hSg : S ≠ g)
    (hS : s.heap.get? S = some { cls := .type "list", data := .seq #[] })
    (hR : ∀ s' acc' c', Fin s' → s'.heap.get? S = some { cls := .type "list", dict := none, data := .seq acc' c', slots := #[] } → ItemsOf P acc' n → R (.ok (.ret .none)) s') (hn : n ≤ sizeLine) :
    wpAny (model prog w) A.in1 (Builtin.«list.__init__» ⟨[.ref S, .ref g], []⟩)
      (fun fin s' => match fin with | .done f => R (.ok f) s' | .again c' => c'.quiet = true ∧ codeAny (model prog w) A c' R s') (fun e s' => R (.error e) s') s := by
  show wpAny _ A.in1 (do let old ← Builtin.List.listItems (.ref S); Builtin.List.listUpdate (.ref S) (fun _ => #[]); letGo old.toList.reverse; Builtin.List.listExtendWith (.ref S) (.ref g) .none) _ _ s
  refine wpAny_bind ?_
  unfold Builtin.List.listItems
  refine wpAny_bind (wpAny_seqItems hS rfl (wpAny_pure ?_))
  show wpAny _ A.in1 (updateSeq S (fun _ => #[]) >>= fun _ => letGo (#[] : Array Value).toList.reverse >>= fun _ => Builtin.List.listExtendWith (.ref S) (.ref g) .none) _ _ s
  refine wpAny_bind (wpAny_updateSeq hS rfl ?_)
  have hS₂ := Heap.get?_update_self (Obj.mapSeq (fun _ => (#[] : Array Value))) hS rfl
  have oth : ∀ b o, b ≠ S → s.heap.get? b = some o → (s.heap.update S (Obj.mapSeq (fun _ => (#[] : Array Value)))).get? b = some o :=
    fun b o hb e => (Heap.get?_update_other _ _ (Ne.symm hb)).trans e
  refine wpAny_bind (wpAny_letGo ?_)
  exact gs_extend W .none _ (W.upd 0 s _ hst oth ⟨_, hS₂⟩) hSg hS₂ hR hn
end

section
variable {prog : Program} {w : World} {A : Around} {E : Value → Shared → Prop} {s : Shared} {g : Addr} {n : Nat} {P : Nat → Value → Prop} {St : Nat → Shared → Prop} {Fin : Shared → Prop}

theorem call_list_drain {Q : Value → Shared → Prop} (W : GSrc prog w A.in1.in1 g s.heap.objs.size n P St Fin) (hst : St 0 { s with heap := s.heap.push { cls := .type "list", data := .seq #[] } }) (hg : g < s.heap.objs.size)
    (hQ : ∀ s' acc' c', Fin s' → s'.heap.get? s.heap.objs.size = some { cls := .type "list", dict := none, data := .seq acc' c', slots := #[] } → ItemsOf P acc' n → Q (.ref s.heap.objs.size) s') (hn : n ≤ sizeLine) :
    wpAny (model prog w) A (call (.type "list") [.ref g]) Q E s := by
  refine callType_codes (Q₁ := fun obj s₁ => obj = .ref s.heap.objs.size ∧ s₁ = { s with heap := s.heap.push { cls := .type "list", data := .seq #[] } }) F.called_list (F.typeCall_list_1 _) F.entry_list_init
    (code_list_new _ ⟨rfl, rfl⟩) fun obj s₁ h₁ => ?_
  obtain ⟨rfl, rfl⟩ := h₁
  have hS : (s.heap.push { cls := .type "list", data := .seq #[] }).get? s.heap.objs.size = some { cls := .type "list", data := .seq #[] } := Heap.get?_push_size _ rfl
  refine ⟨⟨_, hS, rfl⟩, F.args_list_init_2 _ _, gs_init W hst (Nat.ne_of_gt hg) hS (fun s' acc' c' hf hS' hacc => ?_) hn⟩
  exact ⟨rfl, hQ s' acc' c' hf hS' hacc⟩
end

section
variable {prog : Program} {w : World} {A : Around} {E : Value → Shared → Prop} {s : Shared}
theorem pyNext_genQ {a : Addr} {g n : Nat} {gs : GenState} {P : Nat → Shared → Shared → Prop} {Y : Protocol} {Q : Option Value → Shared → Prop} (hh : A.handled = none)
    (hl : s.heap.NoLimit) (hroom : A.depth < recursionLimit)
    (hg : s.heap.IsGen a g) (hgs : s.gens[g]? = some gs)
    (hgo : gs.Goes (model prog w) A.in1 (fun n s₀ r s₁ => r = .ok (.ret .none) ∧ P n s₀ s₁) Y n (.send .none) (s.setGen g .running))
    (hY : ∀ v s₁ gs', gs'.bare = true → Y (n - 1) (s.setGen g .running) v s₁ (fun r' s'' => match n with
        | 0 => False
        | m + 1 => gs'.Goes (model prog w) A.in1 (fun n s₀ r s₁ => r = .ok (.ret .none) ∧ P n s₀ s₁) Y m r' s'') → Q (some v) (s₁.setGen g gs'))
    (hP : ∀ s₁, P n (s.setGen g .running) s₁ → ∀ h', (∀ b o, s₁.heap.get? b = some o → h'.get? b = some o) → Q none { s₁.setGen g .finished with heap := h' }) :
    wpAny (model prog w) A (pyNext (.ref a)) Q E s := by
  unfold pyNext
  refine wpAny_bind (wpAny_attempt (wpAny_callSpecial?_slot (name := Str.ofString "__next__") hg.typeIs slot_gen_next
    (wpAny_call_entry slot_gen_next hg.typeIs entry_gen_next ?_ (args_gen_next _))))
  show wpAny _ _ (Builtin.Generator.genWake (.ref a) (.send .none)) _ _ s
  unfold Builtin.Generator.genWake
  refine wpAny_bind (wpAny_holding (wpAny_genNumber hg (wpAny_bind (wpAny_genState hgs ?_))))
  cases gs with
  | running => exact hgo.elim
  | finished => exact hgo.elim
  | _ =>
    refine wpAny_bind (wpAny_roomToWake hl hroom ?_)
    show wpAny _ _ (.resume g (.send .none) [] _) _ _ s
    refine wpAny_resumeQ hgs hgo (fun x s₁ hx => ?_) (fun v s₁ gs' hb hv => ?_)
    · obtain ⟨rfl, hp⟩ := hx
      show wpAny _ _ (newExc (.type "StopIteration") [] >>= _) _ _ _
      refine wpAny_bind ?_
      simp only [newExc, newTuple]
      refine wpAny_bind (wpAny_newObj_type ?_ (by size_fits))
      refine wpAny_bind (m := firstArgMember _ _) (wpAny_of_eq (a := Value.none) (by first | rfl | (simp only [firstArgMember]; rfl)) ?_)
      refine wpAny_newObj_type ?_ (by size_fits)
      simp only [raiseNew]
      refine wpAny_bind (wpAny_bind (wpAny_handled ?_))
      rw [show A.in1.handled = none from hh]
      refine wpAny_throw ?_
      refine wpAny_bind (wpAny_isInstance (T := "StopIteration") (b := true) ⟨_, Heap.get?_push_size _ rfl, rfl⟩ isSubtype_stop ?_)
      exact wpAny_pure (hP s₁ hp _ fun b o hb => Heap.get?_push_of_some _ (Heap.get?_push_of_some _ hb))
    · exact wpAny_pure ⟨v, rfl, wpAny_pure (hY v s₁ gs' hb hv)⟩
end

end

section

section
variable {prog : Program} {w : World} {A : Around}

/-- what stays over a segment: all below the generator but its frame, and the list that is filled -/
def OldS (C : Heap) (S : Addr) (b : Addr) : Prop := (∃ o, C.get? b = some o) ∨ b = C.objs.size + 1 ∨ b = S
def SinceS (C : Heap) (S : Addr) (s₀ s : Shared) : Prop := ∃ h tk, s = { s₀ with heap := h, toks := tk } ∧ ∀ b o, OldS C S b → s₀.heap.get? b = some o → h.get? b = some o
theorem SinceS.refl (C : Heap) (S : Addr) (s : Shared) : SinceS C S s s := ⟨_, _, rfl, fun _ _ _ e => e⟩
theorem SinceS.step {C : Heap} {S : Addr} {s₀ s : Shared} (x : SinceS C S s₀ s) {h' : Heap} {tk : Nat} (hk : ∀ b o, OldS C S b → s.heap.get? b = some o → h'.get? b = some o) : SinceS C S s₀ { s with heap := h', toks := tk } := by
  obtain ⟨h₁, tk₁, rfl, hk₁⟩ := x
  exact ⟨h', tk, rfl, fun b o hb e => hk b o hb (hk₁ b o hb e)⟩
def AgrS (S : Addr) (s s'' : Shared) : Prop := (∀ b o, b ≠ S → s.heap.get? b = some o → s''.heap.get? b = some o) ∧ ∃ o, s''.heap.get? S = some o

def protS (C : Heap) (S : Addr) (outs : List Str) : Protocol := fun m s₀ v s kap =>
  (∃ y t, outs[outs.length - 1 - m]? = some y ∧ v = .str y t) ∧ SinceS C S s₀ s ∧ ∀ s'' : Shared, AgrS S s s'' → kap (.send .none) s''
abbrev endS (C : Heap) (S : Addr) : GenEnd := fun n s₀ r s₁ => r = .ok (.ret .none) ∧ (n = 0 ∧ SinceS C S s₀ s₁)

/-- where the loop of the generator stands -/
def InvS (H₀ : Heap) (C S l I P : Addr) (pn : Str) (po : Obj) (i : Nat) (h : Heap) : Prop :=
  ∃ m, Fr H₀ C h m ∧ m pn = some (.ref P) ∧ News H₀ C h [(P, po)] ∧ h.IsListIter I l i ∧ (∃ o, h.get? S = some o)

structure LoopS (prog : Program) (w : World) (H₀ : Heap) (C S l : Addr) (env : Env) (pn x : Str) (test elt : Expr) (P : Addr) (po : Obj) (pz : Str → Bool) (out : Str → Str) : Prop where
  test : ∀ h m y ty (s : Shared), s.heap = h → Fr H₀ C h m → News H₀ C h [(P, po)] → m pn = some (.ref P) → m x = some (.str y ty) → y.length ≤ sizeLine → 
    wpAny (model prog w) AB (isTrue test env (eval test env)) (fun b s' => b = pz y ∧ Kp s s') NoE s
  elt : ∀ h m y ty (s : Shared), s.heap = h → Fr H₀ C h m → News H₀ C h [(P, po)] → m pn = some (.ref P) → m x = some (.str y ty) → y.length ≤ sizeLine → 
    wpAny (model prog w) AB (eval elt env) (fun v s' => (∃ t, v = .str (out y) t) ∧ Kp s s') NoE s

theorem seg_If {M : Model} {R : GenEnd} {Y : Protocol} {n : Nat} {s₀ : Shared} {c : Code} {fs : List Frame} {s : Shared} {env : Env} {K : Flow → Sem Fin} {H : Value → Sem Fin} {gd : Bool → Bool} {lv : List Value → List Value}
    {test : Expr} {body orelse : List Stmt} {pos : Pos}
    (h : wpAny M (A.over c fs) (isTrue test env (eval test env)) (fun b s' => match b with | true => Seg M A R Y n s₀ c ((execs body env).wrap K H gd lv) fs s' | false => Seg M A R Y n s₀ c ((execs orelse env).wrap K H gd lv) fs s')
      (fun x s' => Seg M A R Y n s₀ c (H x) fs s') s) : Seg M A R Y n s₀ c ((exec (.If test body orelse pos) env).wrap K H gd lv) fs s := by
  rw [exec_If]
  refine seg_bind_wrap (wpAny_standAt ?_)
  refine seg_bind_wrap (wpAny_mono h (fun b s' hb => ?_) fun _ _ e => e)
  cases b with
  | true => exact hb
  | false => exact hb

def outsS (lines : List Str) (pz : Str → Bool) (out : Str → Str) : List Str := (lines.filter pz).map out

theorem outs_at {lines : List Str} {pz : Str → Bool} {out : Str → Str} {i : Nat} {y : Str} (hy : lines[i]? = some y) (hp : pz y = true) :
    (outsS lines pz out)[(outsS lines pz out).length - 1 - ((lines.drop (i + 1)).filter pz).length]? = some (out y) := by
  obtain ⟨hi, rfl⟩ := List.getElem?_eq_some_iff.mp hy
  have e : lines = lines.take i ++ lines[i] :: lines.drop (i + 1) := by rw [← List.drop_eq_getElem_cons hi, List.take_append_drop]
  have e2 : outsS lines pz out = (((lines.take i).filter pz).map out) ++ out lines[i] :: (((lines.drop (i + 1)).filter pz).map out) := by
    unfold outsS
    conv => lhs; rw [e]
    rw [List.filter_append, List.filter_cons_of_pos hp, List.map_append, List.map_cons]
  rw [e2, List.length_append, List.length_cons, List.length_map, List.length_map]
  rw [show ((lines.take i).filter pz).length + (((lines.drop (i + 1)).filter pz).length + 1) - 1 - ((lines.drop (i + 1)).filter pz).length = (((lines.take i).filter pz).map out).length by rw [List.length_map]; omega]
  rw [List.getElem?_append_right (Nat.le_refl _), Nat.sub_self]; rfl

theorem seg_loopS {H₀ : Heap} {C S l I P : Addr} {vs : List Value} {lines : List Str} {env : Env} {pn x : Str} {px pt py pe pi : Pos} {test elt : Expr} {po : Obj} {pz : Str → Bool} {out : Str → Str} {fs : List Frame}
    (hh : A.handled = none) (hyl : ∀ y ∈ lines, y.length ≤ sizeLine) (hL : C = H₀.objs.size) (hvs : StrsAre vs lines) (hl : H₀.IsList l vs.toArray) (hLoop : LoopS prog w H₀ C S l env pn x test elt P po pz out) (hloc : env.locals = C) (hx : env.kindOf x = some .local) (hxp : x ≠ pn)
    (hp : (env.scope.kind == .class || (env.scope.kind == .module && env.locals != env.globals)) = false) (hco : env.scope.isCoroutine = false) (hi : interactive env = false)
    (hIC : I ≠ C) (hIS : I ≠ S) (hIP : I ≠ P) (hCS : S ≠ C) (hI2 : ¬ I < C + 2) (hPS : P ≠ S) (hS2 : ¬ S < C + 2)
    (hfs : splitAtGen fs = none) (hfg : fs.any Frame.guarded = false)
    (hov : ∀ {α : Type} {t : Sem α} {Q : α → Shared → Prop} {s : Shared}, wpAny (model prog w) AB t Q NoE s → wpAny (model prog w) (A.over (.forLoop (.Name x px) (.ref I) [.If test [.Expr (.Yield (some elt) py) pe] [] pi] [] env) fs) t Q NoE s)
    (hend : ∀ s₀ s, SinceS H₀ S s₀ s → Seg (model prog w) A (endS H₀ S) (protS H₀ S (outsS lines pz out)) 0 s₀ (.block [] env) (leafOf (.ok .next)) fs s) :
    ∀ (k i : Nat) (s₀ s : Shared), lines.length - i = k → i ≤ lines.length → InvS H₀ C S l I P pn po i s.heap → SinceS H₀ S s₀ s →
      Seg (model prog w) A (endS H₀ S) (protS H₀ S (outsS lines pz out)) ((lines.drop i).filter pz).length s₀
        (.forLoop (.Name x px) (.ref I) [.If test [.Expr (.Yield (some elt) py) pe] [] pi] [] env)
        ((model prog w).den (.forLoop (.Name x px) (.ref I) [.If test [.Expr (.Yield (some elt) py) pe] [] pi] [] env)) fs s := by
  have hlC : l ≠ C := by rw [hL]; exact Nat.ne_of_lt (by obtain ⟨o, e, _⟩ := hl; exact Heap.lt_size e)
  have hlt2 : l < C + 2 := by rw [hL]; exact Nat.lt_add_right 2 (by obtain ⟨o, e, _⟩ := hl; exact Heap.lt_size e)
  have hlI : l ≠ I := fun e => hI2 (e ▸ hlt2)
  have oldC : ∀ b, OldS H₀ S b → b ≠ C ∧ b ≠ I := by
    rintro b (⟨o, h1⟩ | rfl | rfl)
    · have := Heap.lt_size h1
      rw [← hL] at this
      exact ⟨Nat.ne_of_lt this, fun e => hI2 (e ▸ Nat.lt_add_right 2 this)⟩
    · rw [← hL]
      exact ⟨Nat.succ_ne_self _, fun e => hI2 (e ▸ Nat.lt_succ_self _)⟩
    · exact ⟨hCS, Ne.symm hIS⟩
  intro k
  induction k with
  | zero =>
    intro i s₀ s hk hi' hinv hsince
    have hin : i = lines.length := by omega
    subst hin
    obtain ⟨m, F, hm, N, hit, hS⟩ := hinv
    show Seg _ A _ _ _ s₀ _ ((forTurn _ _ _ _ env).onRaise _) fs s
    rw [Sem.onRaise_eq_wrap]
    simp only [forTurn]
    refine seg_bind_wrap (wpAny_standAt ?_)
    have hnone : vs.toArray[lines.length]? = none := by rw [List.getElem?_toArray]; exact List.getElem?_eq_none (by rw [hvs.len_eq]; exact Nat.le_refl _)
    refine seg_bind_wrap (wpAny_onRaise ?_)
    refine wp_noE (hov ?_)
    refine wpAny_pyNext_list_end rfl hit (F.lst hl) hnone fun h' hk' => ?_
    rw [List.drop_length]
    refine seg_again rfl ?_
    show Seg _ A _ _ 0 s₀ (.block [] env) (leafOf (.ok .next)) fs _
    exact hend _ _ (hsince.step (tk := s.toks) fun b o hb e => hk' b o (oldC b hb).2 e)
  | succ k ih =>
    intro i s₀ s hk hi' hinv hsince
    have hlt : i < lines.length := by omega
    obtain ⟨m, F, hm, N, hit, ⟨oS, hS⟩⟩ := hinv
    have hyi : lines[i]? = some lines[i] := List.getElem?_eq_getElem hlt
    obtain ⟨ty, hvi⟩ := hvs.at hyi
    generalize hyy : lines[i] = y at hyi hvi
    show Seg _ A _ _ _ s₀ _ ((forTurn _ _ _ _ env).onRaise _) fs s
    rw [Sem.onRaise_eq_wrap]
    simp only [forTurn]
    refine seg_bind_wrap (wpAny_standAt ?_)
    refine seg_bind_wrap (wpAny_onRaise ?_)
    refine wp_noE (hov ?_)
    refine wpAny_pyNext_list_item hit (F.lst hl) (show vs.toArray[i]? = some _ by rw [List.getElem?_toArray]; exact hvi) fun h₁ hit₁ hs₁ => ?_
    dsimp only
    refine seg_bind_wrap (wpAny_of_eq (rfl : letOwnedTupleGo (.Name x px) (.ref I) (.str y ty) = pure ()) ?_)
    have hn₁ : h₁.Ns env.locals m := by rw [hloc]; exact F.ns.at' fun o e => hs₁.extBut _ _ (Ne.symm hIC) e
    refine seg_bind_wrap (wpAny_assign_Name (wpAny_storeName_local hx hn₁ (fun h₂ hn₂ hs₂ => ?_) hp))
    rw [hloc] at hn₂ hs₂
    have hH : ∀ b o, H₀.get? b = some o → b ≠ C ∧ b ≠ I := fun b o e => by
      have := Heap.lt_size e
      rw [← hL] at this
      exact ⟨Nat.ne_of_lt this, fun q => hI2 (q ▸ Nat.lt_add_right 2 this)⟩
    have up : ∀ b o, b ≠ C → b ≠ I → s.heap.get? b = some o → h₂.get? b = some o := fun b o h1 h2 e => hs₂.extBut b o h1 (hs₁.extBut b o h2 e)
    have F₂ : Fr H₀ C h₂ (fun z => if z = x then some (.str y ty) else m z) := ⟨hn₂, fun b o e => up b o (hH b o e).1 (hH b o e).2 (F.keep b o e), F.above⟩
    have N₂ : News H₀ C h₂ [(P, po)] := fun p hp => by
      have q := N p hp
      rw [List.mem_singleton] at hp
      subst hp
      exact ⟨up _ _ q.2.1 (Ne.symm hIP) q.1, q.2⟩
    have hm₂ : (fun z => if z = x then some (Value.str y ty) else m z) pn = some (.ref P) := by simp only [if_neg (Ne.symm hxp)]; exact hm
    have hx₂ : (fun z => if z = x then some (Value.str y ty) else m z) x = some (.str y ty) := by simp
    have hit₂ : h₂.IsListIter I l (i + 1) := hit₁.at fun o e => hs₂.extBut _ _ hIC e
    have hS₂ : h₂.get? S = some oS := up _ _ hCS (Ne.symm hIS) hS
    have since₂ : SinceS H₀ S s₀ { s with heap := h₂, toks := s.toks + 1 } := hsince.step fun b o hb e => up b o (oldC b hb).1 (oldC b hb).2 e
    rw [Sem.bind_eq_wrap', Sem.wrap_wrap]
    refine seg_execs_cons (seg_If (wp_noE (hov (wpAny_mono (hLoop.test h₂ _ y ty _ rfl F₂ N₂ hm₂ hx₂ (hyl _ (List.mem_of_getElem? hyi))) (fun b s₃ hb => ?_) fun _ _ e => e))))
    obtain ⟨rfl, h₃, tk₃, rfl, hk₃⟩ := hb
    have inv₃ : ∀ h, (∀ b o, h₃.get? b = some o → h.get? b = some o) → InvS H₀ C S l I P pn po (i + 1) h := fun h hk =>
      ⟨_, (F₂.keeps hk₃).keeps hk, hm₂, fun p hp => ⟨hk _ _ (hk₃ _ _ (N₂ p hp).1), (N₂ p hp).2⟩, (hit₂.at fun o e => hk₃ _ _ e).at fun o e => hk _ _ e, ⟨_, hk _ _ (hk₃ _ _ hS₂)⟩⟩
    have hd : lines.drop i = y :: lines.drop (i + 1) := by rw [List.drop_eq_getElem_cons hlt, hyy]
    cases hpz : pz y with
    | false =>
      rw [hd, List.filter_cons_of_neg (by simp [hpz])]
      refine seg_execs_nil ?_
      exact seg_again rfl (ih (i + 1) s₀ _ (by omega) hlt (inv₃ _ fun _ _ e => e) (since₂.step fun b o _ e => hk₃ b o e))
    | true =>
      rw [hd, List.filter_cons_of_pos hpz, List.length_cons]
      refine seg_execs_cons (seg_Expr_Yield hfs rfl hfg (wp_noE (hov (wpAny_mono (hLoop.elt h₃ _ y ty _ rfl (F₂.keeps hk₃) (fun p hp => ⟨hk₃ _ _ (N₂ p hp).1, (N₂ p hp).2⟩) hm₂ hx₂ (hyl _ (List.mem_of_getElem? hyi))) (fun v s₄ h₄ => ?_) fun _ _ e => e))) hco hi)
      obtain ⟨⟨t, rfl⟩, h₄, tk₄, rfl, hk₄⟩ := h₄
      intro kap hkap
      refine ⟨⟨out y, t, outs_at hyi hpz, rfl⟩, since₂.step fun b o _ e => hk₄ _ _ (hk₃ b o e), fun s'' hagr => hkap .none s'' ?_⟩
      refine seg_execs_nil ?_
      refine seg_again rfl (ih (i + 1) s'' s'' (by omega) hlt ?_ (SinceS.refl _ _ _))
      obtain ⟨m', F', hm', N', hit', hS'⟩ := inv₃ h₄ hk₄
      have hne : ∀ b o, b ≠ S → h₄.get? b = some o → s''.heap.get? b = some o := hagr.1
      have hHS : ∀ b o, H₀.get? b = some o → b ≠ S := fun b o e q => by
        have := Heap.lt_size e
        rw [← hL, q] at this
        exact hS2 (Nat.lt_add_right 2 this)
      refine ⟨m', ⟨F'.ns.at' fun o e => hne _ _ (Ne.symm hCS) e, fun b o e => hne _ _ (hHS b o e) (F'.keep b o e), F'.above⟩, hm', fun p hp => ?_, hit'.at fun o e => hne _ _ hIS e, hagr.2⟩
      have q := N' p hp
      rw [List.mem_singleton] at hp
      subst hp
      exact ⟨hne _ _ hPS q.1, q.2⟩
end

end

section
section
variable {prog : Program} {w : World} {A : Around} {E : Value → Shared → Prop} {s : Shared} {h₀ : Heap} {L : Addr} {m : Str → Option Value} {news : List (Addr × Obj)} {x : Str} {t : Tok} {Q : Value → Shared → Prop} {value slice : Expr}
theorem keptOld (s : Shared) : KeptH (fun h => ∀ b o, s.heap.get? b = some o → h.get? b = some o) := fun _ _ k b ob e => Heap.get?_push_of_some _ (k b ob e)

theorem slice_str_nsK {j : Int} {uj : Tok} (F : Fr h₀ L s.heap m) (N : News h₀ L s.heap news)
    (h : ∀ h' t' k, Fr h₀ L h' m → News h₀ L h' news → (∀ b o, s.heap.get? b = some o → h'.get? b = some o) → Q (.str (Txt.slice x none (some j)) t') { s with heap := h', toks := k })
    (hs : subscripted slice false (.str x t) (.ref s.heap.objs.size) = operate [.ref s.heap.objs.size, .str x t] (getItem (.str x t) (.ref s.heap.objs.size)) := by with_unfolding_all rfl)
    (ht : ∀ r, letTemporaryGo value (.str x t) r = pure () := by intro _; with_unfolding_all rfl) (hsz : x.length ≤ sizeLine := by size_fits) :
    wpAny (model prog w) A (subscriptTail value slice (.str x t) (.ref s.heap.objs.size)) Q E { s with heap := s.heap.push { cls := .type "slice", data := .fields #[.none, .int j uj, .none] } } :=
  tail_of_ItemOn (SBH.sliceItem_ns (keptOld s) (fun _ _ e => e) (fun h' t' k hk => h h' t' k (F.keeps hk) (N.grown hk) hk) hsz) hs ht
theorem slice_str_snK {i : Int} {ui : Tok} (F : Fr h₀ L s.heap m) (N : News h₀ L s.heap news)
    (h : ∀ h' t' k, Fr h₀ L h' m → News h₀ L h' news → (∀ b o, s.heap.get? b = some o → h'.get? b = some o) → Q (.str (Txt.slice x (some i) none) t') { s with heap := h', toks := k })
    (hs : subscripted slice false (.str x t) (.ref s.heap.objs.size) = operate [.ref s.heap.objs.size, .str x t] (getItem (.str x t) (.ref s.heap.objs.size)) := by with_unfolding_all rfl)
    (ht : ∀ r, letTemporaryGo value (.str x t) r = pure () := by intro _; with_unfolding_all rfl) (hsz : x.length ≤ sizeLine := by size_fits) :
    wpAny (model prog w) A (subscriptTail value slice (.str x t) (.ref s.heap.objs.size)) Q E { s with heap := s.heap.push { cls := .type "slice", data := .fields #[.int i ui, .none, .none] } } :=
  tail_of_ItemOn (SBH.sliceItem_sn (keptOld s) (fun _ _ e => e) (fun h' t' k hk => h h' t' k (F.keeps hk) (N.grown hk) hk) hsz) hs ht
end
def restP (tag y : Str) : Bool := [Str.ofString "  ", tag].any (· == Txt.slice y none (some 2))
def restO (y : Str) : Str := Txt.slice y (some 2) none

end

section
section
variable {prog : Program} {w : World} {A : Around} {E : Value → Shared → Prop} {s : Shared} {env : Env}

/-- the general for loop: no break, no return unless told -/
theorem for_go {target : Expr} {it : Value} {body : List Stmt} {R : Result → Shared → Prop} (n : Nat) (Inv : Nat → Shared → Prop) (Qd : Shared → Prop)
    (next : ∀ i s, i < n → Inv i s → wpAny (model prog w) A (pyNext it) (NextThen prog w A target it env (fun _ => False) (fun s₂ =>
      wpAny (model prog w) A (execs body env) (fun f s₃ => match f with | .next | .cont => Inv (i + 1) s₃ | .brk => R (.ok .next) s₃ | .ret v => R (.ok (.ret v)) s₃) NoE s₂)) NoE s)
    (stop : ∀ s, Inv n s → wpAny (model prog w) A (pyNext it) (NextThen prog w A target it env (fun s₁ => R (.ok .next) s₁) (fun _ => False)) NoE s)
    (h : Inv 0 s) : codeAny (model prog w) A (.forLoop target it body [] env) R s := by
  refine codeAny_forLoop_any (fun k s => ∃ i, i ≤ n ∧ k = n - i ∧ Inv i s) (fun k s hI => ?_) n ⟨0, Nat.zero_le _, rfl, h⟩
  obtain ⟨i, hi, rfl, hI⟩ := hI
  rcases Nat.lt_or_ge i n with hlt | hge
  · refine wp_noE (wpAny_mono (next i s hlt hI) (fun r s₁ h₁ => ?_) fun _ _ e => e)
    cases r with
    | none => exact h₁.elim
    | some v =>
      refine wp_noE (wpAny_mono h₁ (fun _ s₂ h₂ => ?_) fun _ _ e => e)
      refine wp_noE (wpAny_mono h₂ (fun _ s₃ h₃ => ?_) fun _ _ e => e)
      refine wp_noE (wpAny_mono h₃ (fun f s₄ h₄ => ?_) fun _ _ e => e)
      cases f with
      | next => exact ⟨n - (i + 1), by omega, i + 1, hlt, rfl, h₄⟩
      | cont => exact ⟨n - (i + 1), by omega, i + 1, hlt, rfl, h₄⟩
      | brk => exact h₄
      | ret v => exact h₄
  · obtain rfl : i = n := Nat.le_antisymm hi hge
    refine wp_noE (wpAny_mono (stop s hI) (fun r s₁ h₁ => ?_) fun _ _ e => e)
    cases r with
    | none => exact wpAny_pure h₁
    | some v =>
      refine wp_noE (wpAny_mono h₁ (fun _ s₂ h₂ => ?_) fun _ _ e => e)
      exact wp_noE (wpAny_mono h₂ (fun _ s₃ h₃ => h₃.elim) fun _ _ e => e)
end

end

section
section
variable {prog : Program} {w : World} {A : Around}

/-- where the generator stands between two draws -/
structure StG (prog : Program) (w : World) (A : Around) (H₀ : Heap) (s₀ : Shared) (g : Addr) (gn : Nat) (S : Addr) (outs : List Str) (j : Nat) (s : Shared) : Prop where
  gen : s.heap.IsGen g gn
  lim : s.heap.NoLimit
  keep : ∀ b o, H₀.get? b = some o → s.heap.get? b = some o
  os : s.os = s₀.os
  drawn : s.drawn = s₀.drawn
  size : s.gens.size = gn + 1
  old : ∀ i, i < gn → s.gens[i]? = s₀.gens[i]?
  live : ∃ o, s.heap.get? S = some o
  goes : ∃ gs, s.gens[gn]? = some gs ∧ gs.bare = true ∧ ∀ s3, AgrS S s s3 → gs.Goes (model prog w) A.in1 (endS H₀ S) (protS H₀ S outs) (outs.length - j) (.send .none) s3
structure FinG (H₀ : Heap) (s₀ : Shared) (gn : Nat) (s : Shared) : Prop where
  keep : ∀ b o, H₀.get? b = some o → s.heap.get? b = some o
  os : s.os = s₀.os
  drawn : s.drawn = s₀.drawn
  size : s.gens.size = gn + 1
  old : ∀ i, i < gn → s.gens[i]? = s₀.gens[i]?
  last : s.gens[gn]? = some .finished

theorem setGen_size (s : Shared) (g : Nat) (x : GenState) : (s.setGen g x).gens.size = s.gens.size := (GenOnly.setGen s g x).1
theorem setGen_other (s : Shared) (g : Nat) (x : GenState) {i : Nat} (h : i ≠ g) : (s.setGen g x).gens[i]? = s.gens[i]? := (GenOnly.setGen s g x).2 i h

theorem gsrc_of {H₀ : Heap} {s₀ : Shared} {g : Addr} {gn : Nat} {S : Addr} {outs : List Str} (hh : A.handled = none) (hroom : A.depth < recursionLimit) (hg1 : g = H₀.objs.size + 1) (hS : ¬ S < H₀.objs.size + 2)
    (hcs : ∃ o, H₀.get? cStatics = some o) :
    GSrc prog w A g S outs.length (fun j v => ∃ y t, outs[j]? = some y ∧ v = .str y t) (StG prog w A H₀ s₀ g gn S outs) (FinG H₀ s₀ gn) where
  gen := fun i s st => ⟨gn, st.gen⟩
  upd := fun i s h' st hk hl => by
    have hH : ∀ b o, H₀.get? b = some o → b ≠ S := fun b o e q => hS (q ▸ Nat.lt_add_right 2 (Heap.lt_size e))
    have hgS : g ≠ S := fun q => hS (by rw [← q, hg1]; exact Nat.lt_succ_self _)
    obtain ⟨gs, h1, h2, h3⟩ := st.goes
    refine ⟨(let ⟨o, nm, qn, ho, r⟩ := st.gen; ⟨o, nm, qn, hk _ _ hgS ho, r⟩), (let ⟨mc, hns, hnn⟩ := st.lim; ⟨mc, hns.at' fun o e => ?_, hnn⟩), fun b o e => hk _ _ (hH b o e) (st.keep b o e), st.os, st.drawn, st.size, st.old, hl, gs, h1, h2, fun s3 hagr => h3 s3 ⟨fun b o hb e => hagr.1 b o hb (hk b o hb e), hagr.2⟩⟩
    obtain ⟨oc, hoc⟩ := hcs
    exact hk _ _ (hH _ _ hoc) e
  item := fun i s oS Q E hi st hS' hQ => by
    obtain ⟨gs, hgs, hb, hgo⟩ := st.goes
    have hgS : g ≠ S := fun q => hS (by rw [← q, hg1]; exact Nat.lt_succ_self _)
    obtain ⟨m, hm⟩ : ∃ m, outs.length - i = m + 1 := ⟨outs.length - i - 1, by omega⟩
    rw [hm] at hgo
    refine pyNext_genQ (P := fun n s₀ s₁ => n = 0 ∧ SinceS H₀ S s₀ s₁) hh st.lim hroom st.gen hgs (hgo _ ⟨fun _ _ _ e => e, st.live⟩) (fun v s₁ gs' hb' hv => ?_) (fun s₁ hp h' hk => absurd hp.1 (Nat.succ_ne_zero m))
    obtain ⟨⟨y, t, hy, rfl⟩, ⟨h₁, tk₁, rfl, hk₁⟩, hkap⟩ := hv
    have hidx : outs.length - 1 - (m + 1 - 1) = i := by omega
    rw [hidx] at hy
    have kH : ∀ b o, H₀.get? b = some o → s.heap.get? b = some o → h₁.get? b = some o := fun b o e e' => hk₁ b o (.inl ⟨_, e⟩) e'
    refine hQ _ _ ⟨y, t, hy, rfl⟩ ⟨?_, ?_, fun b o e => kH b o e (st.keep b o e), st.os, st.drawn, ?_, fun j hj => ?_, ⟨oS, hk₁ S oS (.inr (.inr rfl)) hS'⟩, gs', setGen_self (gs := .running) (setGen_self hgs), hb', fun s3 hagr => ?_⟩ (hk₁ S oS (.inr (.inr rfl)) hS')
    · obtain ⟨o, nm, qn, ho, r⟩ := st.gen
      exact ⟨o, nm, qn, hk₁ _ _ (.inr (.inl hg1)) ho, r⟩
    · obtain ⟨mc, hns, hnn⟩ := st.lim
      exact ⟨mc, hns.at' fun o e => hk₁ _ _ (.inl hcs) e, hnn⟩
    · rw [setGen_size]; show (s.setGen gn .running).gens.size = _; rw [setGen_size]; exact st.size
    · rw [setGen_other _ _ _ (Nat.ne_of_lt hj)]; show (s.setGen gn .running).gens[j]? = _; rw [setGen_other _ _ _ (Nat.ne_of_lt hj)]; exact st.old j hj
    · have e : outs.length - (i + 1) = m := by omega
      rw [e]
      exact hkap s3 hagr
  done := fun s oS Q E st hS' hQ => by
    obtain ⟨gs, hgs, hb, hgo⟩ := st.goes
    rw [Nat.sub_self] at hgo
    refine pyNext_genQ (P := fun n s₀ s₁ => n = 0 ∧ SinceS H₀ S s₀ s₁) hh st.lim hroom st.gen hgs (hgo _ ⟨fun _ _ _ e => e, st.live⟩) (fun v s₁ gs' hb' hv => ?_) (fun s₁ hp h' hk => ?_)
    · obtain ⟨_, ⟨h₁, tk₁, rfl, hk₁⟩, hkap⟩ := hv
      refine False.elim (hkap { s.setGen gn .running with heap := h₁, toks := tk₁ } ⟨fun _ _ _ e => e, ⟨oS, hk₁ S oS (.inr (.inr rfl)) hS'⟩⟩)
    · obtain ⟨_, h₁, tk₁, rfl, hk₁⟩ := hp
      refine hQ _ ⟨fun b o e => hk _ _ (hk₁ b o (.inl ⟨_, e⟩) (st.keep b o e)), st.os, st.drawn, ?_, fun j hj => ?_, setGen_self (gs := .running) (setGen_self hgs)⟩ (hk _ _ (hk₁ S oS (.inr (.inr rfl)) hS'))
      · show ((Shared.setGen _ gn .finished)).gens.size = _
        rw [setGen_size]; show (s.setGen gn .running).gens.size = _; rw [setGen_size]; exact st.size
      · show (Shared.setGen _ gn .finished).gens[j]? = _
        rw [setGen_other _ _ _ (Nat.ne_of_lt hj)]; show (s.setGen gn .running).gens[j]? = _; rw [setGen_other _ _ _ (Nat.ne_of_lt hj)]; exact st.old j hj

abbrev genK : Flow → Sem Fin := fun f => .pure (.done (.ret (match f with | .ret v => v | _ => .none)))
abbrev genH (env : Env) : Value → Sem Fin := fun e => (leaving env e).wrap (fun _ => .raise e) .raise id id
/-- the body of restore in segments -/
theorem seg_restore {H₀ : Heap} {S l : Addr} {og oS : Obj} {vs : List Value} {lines : List Str} {env : Env} {pn x dn : Str} {px pt py pe pi pf pd : Pos} {test elt : Expr} {pz : Str → Bool} {out : Str → Str} {st1 st2 st3 : Stmt}
    (hh : A.handled = none) (hA1 : A.depth ≤ 520) (hA2 : A.units ≤ 520)
    (hyl : ∀ y ∈ lines, y.length ≤ sizeLine) (hvs : StrsAre vs lines) (hl : H₀.IsList l vs.toArray) (hloc : env.locals = H₀.objs.size) (hx : env.kindOf x = some .local) (hxp : x ≠ pn)
    (hp : (env.scope.kind == .class || (env.scope.kind == .module && env.locals != env.globals)) = false) (hco : env.scope.isCoroutine = false) (hi : interactive env = false)
    (hfold : ∀ v, foldedSetIterable (.Name dn pd) env v = pure v) (hdn : ∀ (s : Shared) m (Q : Value → Shared → Prop), s.heap.Ns H₀.objs.size m → m dn = some (.ref l) → Q (.ref l) s → wpAny (model prog w) AB (eval (.Name dn pd) env) Q NoE s)
    (hS2 : ¬ S < H₀.objs.size + 2)
    (s : Shared) (hbase : ∀ b o, H₀.get? b = some o → s.heap.get? b = some o) (hgen : s.heap.get? (H₀.objs.size + 1) = some og) (hlive : s.heap.get? S = some oS)
    (hpre : ∀ Q : Shared → Prop, (∀ P h tk m po, Fr H₀ H₀.objs.size h m → News H₀ H₀.objs.size h [(P, po), (H₀.objs.size + 1, og), (S, oS)] → P ≠ S → P ≠ H₀.objs.size → m pn = some (.ref P) → m dn = some (.ref l) →
        LoopS prog w H₀ H₀.objs.size S l env pn x test elt P po pz out → Q { s with heap := h, toks := tk }) →
      wpAny (model prog w) AB (exec st1 env) (fun f s1 => f = .next ∧ wpAny (model prog w) AB (exec st2 env) (fun f s2 => f = .next ∧ wpAny (model prog w) AB (exec st3 env) (fun f s3 => f = .next ∧ Q s3) NoE s2) NoE s1) NoE s)
    (hcw : (Code.func [st1, st2, st3, .For (.Name x px) (.Name dn pd) [.If test [.Expr (.Yield (some elt) py) pe] [] pi] [] pf] env).weight = 1)
    (hcu : (Code.func [st1, st2, st3, .For (.Name x px) (.Name dn pd) [.If test [.Expr (.Yield (some elt) py) pe] [] pi] [] pf] env).cUnits ≤ 3)
    (hlw : ∀ I, (Code.forLoop (.Name x px) (.ref I) [.If test [.Expr (.Yield (some elt) py) pe] [] pi] [] env).weight = 0 ∧ (Code.forLoop (.Name x px) (.ref I) [.If test [.Expr (.Yield (some elt) py) pe] [] pi] [] env).cUnits = 0) :
    Seg (model prog w) A (endS H₀ S) (protS H₀ S (outsS lines pz out)) (outsS lines pz out).length s
      (.func [st1, st2, st3, .For (.Name x px) (.Name dn pd) [.If test [.Expr (.Yield (some elt) py) pe] [] pi] [] pf] env)
      ((model prog w).den (.func [st1, st2, st3, .For (.Name x px) (.Name dn pd) [.If test [.Expr (.Yield (some elt) py) pe] [] pi] [] pf] env)) [] s := by
  generalize hcode : Code.func [st1, st2, st3, .For (.Name x px) (.Name dn pd) [.If test [.Expr (.Yield (some elt) py) pe] [] pi] [] pf] env = code at hcw hcu
  have hov : ∀ {α : Type} {t : Sem α} {Q : α → Shared → Prop} {E : Value → Shared → Prop} {s : Shared}, wpAny (model prog w) AB t Q NoE s → wpAny (model prog w) (A.over code []) t Q E s := fun h => by
    refine wp_noE (wp_AB hh ?_ ?_ h)
    · show A.depth + 0 + code.weight ≤ 600
      rw [hcw]; omega
    · show A.units + 0 + code.cUnits ≤ 600
      omega
  subst hcode
  refine seg_func ?_
  refine seg_execs_cons (seg_wrap (hov (wpAny_mono (hpre (fun s3 => Seg (model prog w) A (endS H₀ S) (protS H₀ S (outsS lines pz out)) (outsS lines pz out).length s (.func [st1, st2, st3, .For (.Name x px) (.Name dn pd) [.If test [.Expr (.Yield (some elt) py) pe] [] pi] [] pf] env) ((execs [.For (.Name x px) (.Name dn pd) [.If test [.Expr (.Yield (some elt) py) pe] [] pi] [] pf] env).wrap genK (genH env) id id) [] s3) ?_) (fun f s1 h1 => ?_) fun _ _ e => e)))
  rotate_left
  · obtain ⟨rfl, h1⟩ := h1
    refine seg_execs_cons (seg_wrap (hov (wpAny_mono h1 (fun f s2 h2 => ?_) fun _ _ e => e)))
    obtain ⟨rfl, h2⟩ := h2
    refine seg_execs_cons (seg_wrap (hov (wpAny_mono h2 (fun f s3 h3 => ?_) fun _ _ e => e)))
    obtain ⟨rfl, h3⟩ := h3
    exact h3
  intro P h tk m po F N hPS hPC hm hmd hloop
  refine seg_execs_cons ?_
  rw [exec_For]
  refine seg_bind_wrap (wpAny_standAt ?_)
  refine seg_bind_wrap (hov (hdn { s with heap := h, toks := tk } m _ F.ns hmd ?_))
  refine seg_bind_wrap (wpAny_of_eq (hfold _) ?_)
  refine seg_bind_wrap (wpAny_standAt ?_)
  have hlS : (Shared.heap { s with heap := h, toks := tk }).IsList l vs.toArray := F.lst hl
  refine seg_bind_wrap (wpAny_holding (wpAny_pyIter_list hlS ?_))
  dsimp only
  refine seg_call fun p => ?_
  have hsz : H₀.objs.size + 2 ≤ h.objs.size := Heap.lt_size (N (H₀.objs.size + 1, og) (.tail _ (.head _))).1
  have hIC : h.objs.size ≠ H₀.objs.size := Nat.ne_of_gt (Nat.lt_of_lt_of_le (Nat.lt_add_right 1 (Nat.lt_succ_self _)) hsz)
  have hIS : h.objs.size ≠ S := Nat.ne_of_gt (Heap.lt_size (N (S, oS) (.tail _ (.tail _ (.head _)))).1)
  have hIP : h.objs.size ≠ P := Nat.ne_of_gt (Heap.lt_size (N (P, po) (.head _)).1)
  have hCS : S ≠ H₀.objs.size := fun q => hS2 (q ▸ Nat.lt_add_right 1 (Nat.lt_succ_self _))
  have keep1 : ∀ b o, h.get? b = some o → (h.push { cls := .type "list_iterator", data := .fields #[.ref l, .int 0 0] }).get? b = some o := fun b o e => Heap.get?_push_of_some _ e
  have L := seg_loopS (prog := prog) (w := w) (A := A) (H₀ := H₀) (C := H₀.objs.size) (S := S) (l := l) (I := h.objs.size) (P := P) (vs := vs) (lines := lines) (env := env) (pn := pn) (x := x) (px := px) (pt := pt) (py := py) (pe := pe) (pi := pi) (test := test) (elt := elt) (po := po) (pz := pz) (out := out)
    (fs := [.ret (fun r => (Sem.onRaise (match r with | .ok f => (.pure f : Sem Flow) | .error e => .raise e) fun (x : Value) => do
        if (← field x 1) == Value.none then unsupported "frame.own-activation:exception-without-traceback"
        setFlight x env.frame).wrap (fun (f : Flow) => match f with | .next => (execs [] env).wrap genK (genH env) id id | f => genK f) (genH env) id id) none (id false) (id []) (.func [st1, st2, st3, .For (.Name x px) (.Name dn pd) [.If test [.Expr (.Yield (some elt) py) pe] [] pi] [] pf] env) p []])
    hh hyl rfl hvs hl hloop hloc hx hxp hp hco hi hIC hIS hIP hCS (Nat.not_lt.mpr hsz) hPS hS2 rfl rfl (fun hw => ?_) (fun s₀ s hs => ?_) lines.length 0 s { s with heap := h.push { cls := .type "list_iterator", data := .fields #[.ref l, .int 0 0] }, toks := tk } (Nat.sub_zero _) (Nat.zero_le _)
    ⟨m, F.push _, hm, fun p hp => ⟨keep1 _ _ (N p (by rw [List.mem_singleton.mp hp]; exact .head _)).1, (N p (by rw [List.mem_singleton.mp hp]; exact .head _)).2⟩, ⟨_, Heap.get?_push_size _ rfl, rfl, rfl⟩, ⟨oS, keep1 _ _ (N (S, oS) (.tail _ (.tail _ (.head _)))).1⟩⟩ ?_
  · rw [List.drop_zero] at L
    have e : (outsS lines pz out).length = (lines.filter pz).length := by unfold outsS; rw [List.length_map]
    rw [e]
    exact L
  · refine wp_AB hh ?_ ?_ hw
    · have h1 := (hlw h.objs.size).1
      show A.depth + frameCount [(_, p)] + Code.weight _ ≤ 600
      rw [h1, frameCount_cons, hcw]
      show A.depth + (1 + 0) + 0 ≤ 600
      omega
    · have h1 := (hlw h.objs.size).2
      show A.units + unitsOf [(_, p)] + Code.cUnits _ ≤ 600
      rw [h1, unitsOf_cons, unitsOf_nil]
      omega
  · refine seg_leaf (.ok .next) ?_
    exact seg_end (.ok (.ret .none)) ⟨rfl, rfl, hs⟩
  · refine ⟨_, tk, rfl, fun b o hb e => ?_⟩
    rcases hb with ⟨o', e'⟩ | rfl | rfl
    · rw [hbase _ _ e'] at e; cases e
      exact keep1 _ _ (F.keep _ _ e')
    · rw [hgen] at e; cases e
      exact keep1 _ _ (N (_, og) (.tail _ (.head _))).1
    · rw [hlive] at e; cases e
      exact keep1 _ _ (N (_, oS) (.tail _ (.tail _ (.head _)))).1
end

end

local macro_rules | `(tactic| walk_at "ISL") => `(tactic| first | (with_reducible assumption) | exact IsL.fr (by with_reducible assumption) (by with_reducible assumption) | exact IsL.news (by with_reducible assumption) (by news_mem))
local macro_rules | `(tactic| walk_at "KP") => `(tactic| first
  | exact Kp.refl _
  | exact Kp.mk fun _ _ e => e
  | exact Kp.mk (by assumption)
  | (refine Kp.mk fun b o e => ?_; (first | exact (by assumption : ∀ b o, _ → _) _ _ ((by assumption : ∀ b o, _ → _) _ _ e))))
local macro_rules | `(tactic| walk_at "MLOOK") => `(tactic| (repeat (first | (with_reducible assumption) | exact if_pos rfl | refine Eq.trans (if_neg (by decide)) ?_)))
local macro_rules | `(tactic| walk_at "MYENTERC") => `(tactic| k_dflt (refine' enter_cells ?k3 ?k5 ?k6 ?k7 ?k8 ?k9 ?kB ?kD ?_ ?c2 ?c3 ?c4; (case k3 => k_asm); (case k5 => exact TopRead.nolimit (by k_asm)); (case k6 => k_is); (case k7 => k_is); (case k8 => first | decide | exact Nat.le_of_ble_eq_true rfl); (case k9 => exact BindsTo.of_eq rfl); (case kB => exact rfl); (case kD => decide +kernel); (case c2 => exact rfl); (case c3 => exact rfl); (case c4 => exact rfl); k_whole; intro h' tk' cells' F' N' Y'; k_cells Y'; (try simp only [List.cons_append, List.nil_append] at N'); (try dsimp only); (try k_fold)))
local macro_rules | `(tactic| walk_at "eval Name") => `(tactic| ((with_reducible show wpAny _ _ (eval (Expr.Name _ _) (compEnvC _ _ _ _)) _ _ _); refine lc_local (by with_reducible assumption) rfl rfl rfl ?_))
local macro_rules | `(tactic| walk_at "getMethod ref") => `(tactic| ((with_reducible show wpAny _ _ (getMethod (Value.ref _) (Str.ofString "count") _) _ _ _); with_unfolding_all refine getMethod_list_of PySem.F.slot_list_count PySem.F.type_list_count (IsL.list (by walk_at "ISL")) (IsL.nodict (by walk_at "ISL")) ?_))
local macro_rules | `(tactic| walk_at "call builtin:list.count") => `(tactic| ((with_reducible show wpAny _ _ (call _ [Value.ref _, Value.str _ _]) _ _ _); (first | (refine' count_strs ?hl ?hi ?_; (case hl => exact IsL.list (by walk_at "ISL")); (case hi => with_reducible assumption)))))
local macro_rules | `(tactic| walk_at "subscriptTail Name Slice ref ref") => `(tactic| (refine' slice_upto ?F ?N ?hl ?_ ?hs ?ht ?hz; (case F => with_reducible assumption); (case N => with_reducible assumption); (case hl => exact IsL.list (by walk_at "ISL")); (case hs => with_unfolding_all rfl); (case ht => intro _; with_unfolding_all rfl); (case hz => size_fits); intro _ _ _ _))
local macro_rules | `(tactic| walk_at "MYENTERP") => `(tactic| k_dflt (refine' enter_plain ?k3 ?k5 ?k6 ?k7 ?k8 ?k9 ?kl ?_ ?kc ?c2 ?c3 ?c4; (case k3 => k_asm); (case k5 => exact TopRead.nolimit (by k_asm)); (case k6 => k_is); (case k7 => k_is); (case k8 => first | decide | exact Nat.le_of_ble_eq_true rfl); (case k9 => exact BindsTo.of_eq rfl); (case kl => exact locs rfl); (case kc => decide); (case c2 => exact rfl); (case c3 => exact rfl); (case c4 => exact rfl); k_whole; intro h' F' N'; (try dsimp only); (try k_fold)))

section
def beyondN (xs ys : List Str) : Nat → List Str
  | 0 => []
  | i + 1 => beyondN xs ys i ++ (match xs[i]? with | some x => if ys.count x ≤ (xs.take i).count x then [x] else [] | none => [])

theorem beyondN_len (xs ys : List Str) : ∀ i, (beyondN xs ys i).length ≤ i
  | 0 => Nat.le_refl _
  | i + 1 => by
    have := beyondN_len xs ys i
    rw [beyondN, List.length_append]
    split
    · split <;> simp <;> omega
    · simp; omega

theorem beyond (w : World) {loose : List Str} {mg mb : Str → Option Value} (s : Shared)
  (l1 l2 : Addr) (vs1 vs2 : List Value) (xs ys : List Str)
  (Q E : Value → Shared → Prop)
  (X : (Mine.hd.heap_39 w.params).In s.heap) (T : TopRead Mine.hd.view_39 loose mg mb s.heap)
  (h1 : IsL s.heap l1 vs1) (h2 : IsL s.heap l2 vs2) (hx : StrsAre vs1 xs) (hy : StrsAre vs2 ys) (hlx : xs.length ≤ 14) (hly : ys.length ≤ 14)
  (hret : ∀ r zs zz h' tk', (∀ b o, s.heap.get? b = some o → h'.get? b = some o) → IsL h' r zs → StrsAre zs zz → zz.Perm (beyondN xs ys xs.length) → sortedS zz = true → Q (.ref r) { s with heap := h', toks := tk' }) :
    wpAny (model PySem.Challenge.rw_il0132_01.row.prog w) AB (call (.ref 164) [.ref l1, .ref l2]) Q E s := by
  have h1l := h1.list
  have h2l := h2.list
  revert X; k_fill; intro X
  refine wpAny_call ?_
  walk_at "MYENTERC"
  walk1
  walk1
  walk1
  walk1
  walk1
  walk1
  refine compS_eval (by k_asm) (by k_asm) rfl (by decide) rfl (by decide) ?_ 
  walk1
  walk1
  walk1
  walk1
  walk1
  walk1
  rename_i F _ _ _ _ N
  have hlen : vs1.toArray.size = xs.length := by rw [List.size_toArray]; exact hx.len_eq
  refine comp_enum (J := fun _ i zs _ => StrsAre zs (beyondN xs ys i)) rfl (Kp.refl _) (F.lst h1.list) (by rw [hlen]; exact Nat.le_trans hlx (by decide)) (by decide) (fun Z i zs h h' hJ _ => hJ) (fun _ _ => StrsAre.nil) ?_ ?_
  · clear F N
    intro Z i zs C h tk m₁ m' hi hJ hyl ⟨t, v, hv, hm'⟩ F N hkeep hlive
    subst hm'
    rw [List.getElem?_toArray] at hv
    obtain ⟨x, tx, rfl, hxi⟩ := hx.item i v hv
    refine CompTurnOk.one ?_
    have hsz1 : vs1.toArray.size ≤ sizeLine := by rw [hlen]; exact Nat.le_trans hlx (by decide)
    iterate 15 walk1
    have hxi' := StrsAre.take' hx i
    repeat walk1
    · walk_at "KP"
    by_cases hle : ys.count x ≤ (xs.take i).count x
    · have hle' : ((ys.count x : Nat) : Int) ≤ ((xs.take i).count x : Nat) := by omega
      rw [decide_eq_true hle']
      dsimp only
      walk1
      refine ⟨by walk_at "KP", ?_⟩
      simp only [beyondN, hxi, if_pos hle]
      exact StrsAre.append' hJ (.cons _ _ .nil)
    · have hle' : ¬ ((ys.count x : Nat) : Int) ≤ ((xs.take i).count x : Nat) := by omega
      rw [decide_eq_false hle']
      show StrsAre zs (beyondN xs ys (i + 1))
      simp only [beyondN, hxi, if_neg hle, List.append_nil]
      exact hJ
  · clear F N
    intro Z D h' tk zs hJ hlen' F N hkeep hD
    rw [hlen] at hJ hlen'
    walk1
    refine sorted_N_str F N (News.isList N (.head _)) hJ (by rw [hJ.len_eq]; exact Nat.lt_of_le_of_lt (beyondN_len xs ys _) (by omega)) fun h₂ vs' ss' e F N hS hP hs => ?_
    exact hret _ vs' ss' h₂ _ F.keep (IsL.news N (.head _)) hS hP hs

end

section
theorem MMold {h₀ h : Heap} {l : List (Addr × Obj)} (D : W.X.Mem h₀ h [] l) : ∀ b o, h₀.get? b = some o → h.get? b = some o := fun b o e => D.keep b o e (by cases W.X.hasCls o <;> rfl)
theorem MMnew {h₀ h : Heap} {l : List (Addr × Obj)} {p : Addr × Obj} (D : W.X.Mem h₀ h [] (p :: l)) : h₀.get? p.1 = none ∧ h.get? p.1 = some p.2 := ⟨(D.nw _ (.head _)).2, (D.nw _ (.head _)).1⟩
local macro_rules | `(tactic| x_close) => `(tactic| (refine ⟨_, _, _, rfl, rfl, MMold (by assumption), (MMnew (by assumption)).1, _, _, _, (MMnew (by assumption)).2⟩))
theorem tuple_new_mm (w : World) (s : Shared) (T : Addr) (v1 v2 v3 : Value) (n : Nat)
  (X : (Mine.hd.heap_39 w.params).In s.heap) (hT : s.heap.get? T = some ⟨.type "tuple", none, .seq #[v1, v2, v3] n, #[]⟩) :
    wpAny (model PySem.Challenge.rw_il0132_01.row.prog w) AB (call (.builtin "tuple.__new__") [.ref 149, .ref T])
      (fun v s' => ∃ r h' tk', v = .ref r ∧ s' = { s with heap := h', toks := tk' } ∧ (∀ b o, s.heap.get? b = some o → h'.get? b = some o) ∧ s.heap.get? r = none ∧ (∃ d e sl, h'.get? r = some ⟨.ref 149, d, .seq #[v1, v2, v3] e, sl⟩)) NoE s := by
  x_run

section
variable {prog : Program} {w : World} {A : Around} {K : Frag} {C p f : Addr} {mc : Value} {rest : List Value} {more : List Value} {Q : Value → Shared → Prop} {s : Shared}
theorem oi3 (self : Value) (rest : List Value) (M : Model) (A : Around) (E : Value → Shared → Prop) (Q : Fin → Shared → Prop) (s : Shared) (C : Value) (hne : rest.isEmpty = false)
    (t1 : Looks M s.heap (typeOf self) C) (i1 : Looks M s.heap (typeLookup C "__init__") (some (.builtin "object.__init__"))) (m1 : Looks M s.heap (Bind.madeBy C) none) (hC : ∃ c, C = .ref c)
    (h : Q (.done (.ret .none)) s) : wpAny M A (Builtin.«object.__init__» ⟨self :: rest, []⟩) Q E s := by
  obtain ⟨c, rfl⟩ := hC
  obtain ⟨hh, g, dr, t, os⟩ := s
  unfold Builtin.«object.__init__»
  dsimp only at t1 i1 m1 ⊢
  simp only [hne, Bool.not_false, Bool.true_or, if_true]
  repeat lk
  exact h

def Held (p : Prop) : Prop := p
theorem Held.out {p : Prop} (h : Held p) : p := h
theorem Held.intro {p : Prop} (h : p) : Held p := h
theorem make_new {cd : ClassData} {oc : Value} {od : Option Addr} {sl : Array (Option Value)} {c : Value} {l : List Value} (X : K.In s.heap) (hC : K.lookup C = some ⟨oc, od, .cls cd, sl⟩) (e4 : cd.mro = c :: l) (e3 : (sl.toList[4]?).join = some .none)
    (ec : specialIn K (.ref C) "__call__" = some (some (.builtin "type.__call__"))) (et : instIn K (.ref C) (.type "type") = some true)
    (hr : readsIn K C mc = true) (e : findCls K (.ref C) mc "__new__" = some (.get (.builtin "staticmethod.__get__") (.ref p) .none (.ref C))) (hp : recIn K p "staticmethod" = some (.ref f :: more)) (hv : handedIn (.ref f) = true)
    (ei : findIn K (.ref C) "__init__" = some (some (.builtin "object.__init__"))) (es : mroIn K C (.ref C) = some true) (eo : mroIn K C (.type "object") = some true) (hne : rest.isEmpty = false)
    (ho : ∀ self, argsOk "object.__init__" ⟨self :: rest, []⟩)
    (hq : wpAny (model prog w) (A.under (.builtin "type.__call__" ⟨.ref C :: rest, []⟩)) (call (.ref f) (.ref C :: rest)) (fun v s' => ∃ x, v = .ref x ∧ (∃ d dt sl, s'.heap.get? x = some ⟨.ref C, d, dt, sl⟩) ∧ K.In s'.heap ∧ Q v s') NoE { s with toks := s.toks + 1 }) :
    wpAny (model prog w) A (call (.ref C) rest) Q NoE s := by
  refine wpAny_call ?_
  have hcls : clsIn K C = some cd := by unfold clsIn; rw [hC]
  have hm : ∀ {h : Heap}, K.In h → Looks (model prog w) h (mroOf (.ref C)) cd.mro := fun X => (looks_clsIn X hcls).andThen .now
  have made : ∀ {h : Heap}, K.In h → Looks (model prog w) h (Bind.madeBy (.ref C)) none := by
    intro h X A Q E s k q
    unfold Bind.madeBy
    refine wpAny_bind (hm X A _ E s k ?_)
    rw [e4, List.forIn_cons]
    refine wpAny_bind (wpAny_bind (wpAny_bind (wpAny_bind (wpAny_loadPart (k _ _ (X _ _ hC)) (wpAny_pure ?_)))))
    dsimp only
    rw [← Array.getElem?_toList, e3]
    exact wpAny_pure (wpAny_pure (wpAny_pure q))
  obtain ⟨h, g, d, t, os⟩ := s
  have hCh := X _ _ hC
  have call1 := looks_specialIn (M := model prog w) X ec
  have typ := looks_instIn (M := model prog w) X et
  have hm1 := hm X
  have made1 := made X
  refine codeAny_of_tree ?_
  show wpAny _ _ (callAny (.ref C) _) _ _ _
  refine nd_load hCh ?_
  show wpAny _ _ (callAny.viaDunder (.ref C) _) _ _ _
  unfold callAny.viaDunder
  refine wpAny_bind (call1.at ?_)
  dsimp only
  rw [tc_bind]
  refine wpAny_bind (wpAny_pure (wpAny_bind (wpAny_pure ?_)))
  refine wpAny_pure (a := Fin.again (.call (.builtin "type.__call__") ⟨.ref C :: rest, []⟩)) (And.intro rfl ?_)
  refine codeAny_call_builtin_at (Code.quiet_builtin _ (by decide +kernel)) entry_typeCall (check_slot tc_kind tc_split typ (tc_args _ _ _) ?_)
  unfold Builtin.«type.__call__»
  have ne : cd.mro.isEmpty = false := by rw [e4]; rfl
  repeat (first | with_reducible refine cls_bind X hr e (Held.out ?_) | simp only [ne, Bool.false_eq_true, if_false] | lk)
  refine Held.intro (wpAny_call (sm_get X hp (handed_on hv ?_)))
  repeat (first | with_reducible refine wpAny_mono hq (fun v s' hv' => Held.out ?_) (fun _ _ z => z) | lk)
  refine Held.intro ?_
  obtain ⟨x, rfl, ⟨d', dt, sl', hx⟩, X', hQ⟩ := hv'
  obtain ⟨h, g, d, t, os⟩ := s'
  have t1 : Looks (model prog w) h (typeOf (.ref x)) (.ref C) := (Looks.ld hx).andThen .now
  have s1 := looks_mroIn (M := model prog w) X' es
  have o1 := looks_mroIn (M := model prog w) X' eo
  have i1 := looks_findIn (M := model prog w) X' ei
  have m1 := made X'
  have b1 : Looks (model prog w) h (bindSpecial (.builtin "object.__init__") (.ref x)) _ := Looks.of_pure (oi_bind _)
  have t2 : Looks (model prog w) h (isInstance (.ref x) (.type "object")) true := t1.andThen o1
  unfold isInstance callSpecial? specialOf
  repeat (first | with_reducible refine wpAny_call (Held.out ?_) | lk)
  refine Held.intro ?_
  refine codeAny_call_builtin oi_plain entry_oi (@check_slot (model prog w) _ _ _ "object.__init__" "object" "__init__" (.ref x) rest [] _ oi_kind oi_split t2 (ho (.ref x)) ?_)
  refine oi3 (.ref x) rest _ _ _ _ _ (.ref C) hne t1 i1 m1 ⟨_, rfl⟩ ?_
  dsimp only
  repeat lk
  exact hQ
end

theorem mismatch (w : World) {loose : List Str} {mg mb : Str → Option Value} (s : Shared) (a b : Int) (t1 t2 t3 : Tok) (x : Str)
  (Q : Value → Shared → Prop)
  (X : (Mine.hd.heap_39 w.params).In s.heap) (T : TopRead Mine.hd.view_39 loose mg mb s.heap)
  (hret : ∀ r h' tk', (∀ b o, s.heap.get? b = some o → h'.get? b = some o) → s.heap.get? r = none → (∃ d e sl, h'.get? r = some ⟨.ref 149, d, .seq #[.int a t1, .int b t2, .str x t3] e, sl⟩) → Q (.ref r) { s with heap := h', toks := tk' }) :
    wpAny (model PySem.Challenge.rw_il0132_01.row.prog w) (AN 500) (call (.ref 149) [.int a t1, .int b t2, .str x t3]) Q NoE s := by
  refine make_new (K := Mine.hd.heap_39 w.params) (p := 150) (f := 96) (mc := .type "type") X rfl rfl rfl rfl rfl rfl rfl rfl rfl rfl rfl rfl rfl (fun _ => args_object_init_4 _ _ _ _) ?_
  refine wp_AN (n := 510) rfl (Nat.le_of_ble_eq_true (by rfl)) (Nat.le_of_ble_eq_true (by rfl)) ?_
  revert X; k_fill; intro X
  refine wpAny_call ?_
  walk_at "MYENTERP"
  iterate 8 walk1
  rename_i F N
  refine' method_type (K := Mine.hd.heap_39 w.params) (T := "tuple") (name := Str.ofString "__new__") (v := .builtin "tuple.__new__") ?F ?X ?ht ?hs ?he ?hh ?_
  case F => exact F
  case X => exact X
  case ht => kernel_rfl
  case hs => kernel_rfl
  case he => kernel_rfl
  case hh => rfl
  iterate 14 walk1
  rename_i D h2 F N _
  have X2 := X.keeps F.keep

  refine wpAny_mono (wp_AN (n := 600) rfl (Nat.le_of_ble_eq_true rfl) (Nat.le_of_ble_eq_true rfl) (tuple_new_mm w _ _ _ _ _ _ X2 (N.get (.head _)))) ?_ (fun _ _ z => z.elim)
  rintro v s' ⟨r, h3, tk3, rfl, rfl, hk, hf, d, e, sl, hr⟩
  refine ⟨r, rfl, ⟨_, _, _, hr⟩, X2.keeps hk, ?_⟩
  refine hret r h3 tk3 (fun b o q => hk _ _ (F.keep _ _ q)) ?_ ⟨_, _, _, hr⟩
  cases q : s.heap.get? r with
  | none => rfl
  | some o => 
    have := F.keep _ _ q
    dsimp only at hf
    rw [hf] at this; cases this

end

section
local macro_rules | `(tactic| walk_at "subscriptTail Name Slice str ref") => `(tactic| (first
  | (refine' slice_str_nsK (s := ⟨_, _, _, _, _⟩) ?F ?N ?_ ?hs ?ht ?hz; (case F => with_reducible assumption); (case N => with_reducible assumption); (case hs => with_unfolding_all rfl); (case ht => intro _; with_unfolding_all rfl); (case hz => with_reducible assumption); intro _ _ _ _ _ _)
  | (refine' slice_str_snK (s := ⟨_, _, _, _, _⟩) ?F ?N ?_ ?hs ?ht ?hz; (case F => with_reducible assumption); (case N => with_reducible assumption); (case hs => with_unfolding_all rfl); (case ht => intro _; with_unfolding_all rfl); (case hz => with_reducible assumption); intro _ _ _ _ _ _)))
local macro_rules | `(tactic| walk_at "eval Name") => `(tactic| ((with_reducible show wpAny _ _ (eval (Expr.Name _ _) (envOf _ _ _ _ _)) _ _ _); refine wpAny_Name (wpAny_loadName_local rfl rfl (Fr.ns (by assumption)) (by assumption) ?_)))
abbrev renv (C : Addr) : Env := envOf (Str.ofString "restore") { kind := ScopeKind.function, names := [(Str.ofString "delta", NameKind.local), (Str.ofString "which", NameKind.local), (Str.ofString "tag", NameKind.local), (Str.ofString "prefixes", NameKind.local), (Str.ofString "line", NameKind.local), (Str.ofString "int", NameKind.globalImplicit), (Str.ofString "KeyError", NameKind.globalImplicit), (Str.ofString "ValueError", NameKind.globalImplicit)], isGenerator := true, isCoroutine := false } C 28 (Value.ref 27)
theorem r_test (w : World) {loose : List Str} {mg mb : Str → Option Value} {H₀ : Heap} {L P : Addr} {tag : Str} {t1 t2 : Tok} {p1 p2 p3 p4 p5 p6 : Pos}
  (X : (Mine.hd.heap_39 w.params).In H₀) (T : TopRead Mine.hd.view_39 loose mg mb H₀) (s : Shared) (m : Str → Option Value) (y : Str) (ty : Tok)
  (F : Fr H₀ L s.heap m) (N : News H₀ L s.heap [(P, { cls := .type "tuple", data := .seq #[.str (Str.ofString "  ") t1, .str tag t2] })])
  (hm : m "prefixes" = some (.ref P)) (hx : m "line" = some (.str y ty)) (hsz : y.length ≤ sizeLine) :
  wpAny (model PySem.Challenge.rw_il0132_01.row.prog w) AB
    (isTrue (((Expr.Name (Str.ofString "line") p1).Subscript (Expr.Slice none (some (Expr.Constant (Const.int 2) 0 p2)) none p3) p4).Compare [CmpOp.In] [Expr.Name (Str.ofString "prefixes") p5] p6) (renv L)
      (eval (((Expr.Name (Str.ofString "line") p1).Subscript (Expr.Slice none (some (Expr.Constant (Const.int 2) 0 p2)) none p3) p4).Compare [CmpOp.In] [Expr.Name (Str.ofString "prefixes") p5] p6) (renv L)))
    (fun b s' => b = restP tag y ∧ Kp s s') NoE s := by
  unfold renv
  revert X; k_fill; intro X
  repeat walk1
  walk_at "KP"
theorem r_elt (w : World) {loose : List Str} {mg mb : Str → Option Value} {H₀ : Heap} {L P : Addr} {tag : Str} {t1 t2 : Tok} {p1 p2 p3 p4 : Pos}
  (X : (Mine.hd.heap_39 w.params).In H₀) (T : TopRead Mine.hd.view_39 loose mg mb H₀) (s : Shared) (m : Str → Option Value) (y : Str) (ty : Tok)
  (F : Fr H₀ L s.heap m) (N : News H₀ L s.heap [(P, { cls := .type "tuple", data := .seq #[.str (Str.ofString "  ") t1, .str tag t2] })])
  (hm : m "prefixes" = some (.ref P)) (hx : m "line" = some (.str y ty)) (hsz : y.length ≤ sizeLine) :
  wpAny (model PySem.Challenge.rw_il0132_01.row.prog w) AB
    (eval ((Expr.Name (Str.ofString "line") p1).Subscript (Expr.Slice (some (Expr.Constant (Const.int 2) 0 p2)) none none p3) p4) (renv L))
    (fun v s' => (∃ t, v = .str (restO y) t) ∧ Kp s s') NoE s := by
  unfold renv
  revert X; k_fill; intro X
  repeat walk1
  walk_at "KP"

end

section
local macro_rules | `(tactic| walk_at "PAD") => `(tactic| skip)
local macro_rules | `(tactic| walk_at "eval Name") => `(tactic| ((with_reducible show wpAny _ _ (eval (Expr.Name (Str.ofString "which") _) (envOf _ _ _ _ _)) _ _ _); refine wpAny_Name (wpAny_loadName_local rfl rfl (Fr.ns (by assumption)) (by assumption) ?_)))
local macro_rules | `(tactic| walk_at "eval Dict") => `(tactic| (k_dflt (refine' kdn_int ?q ?F ?N ?b ?a ?l ?e ?n ?_; (case q => rfl); (case F => k_asm); (case N => first | k_asm | exact News.nil); (case b => exact TopRead.nolimit (by k_asm)); (case a => rfl); (case l => rfl); (case e => exact List.cons_ne_nil _ _); (case n => exact Nat.le_of_ble_eq_true rfl)); intro d' h' o' F' N' l1 lo' hd'; (try k_lt l1)))
theorem news_drop2 {h₀ h : Heap} {L : Addr} {a b : Addr × Obj} {r : List (Addr × Obj)} (N : News h₀ L h (a :: b :: r)) : News h₀ L h (a :: r) := fun p hp => by
  rcases List.mem_cons.mp hp with rfl | hp
  · exact N _ (.head _)
  · exact N _ (.tail _ (.tail _ hp))
/-- a generator that list() may empty -/
def ListReady (w : World) (s : Shared) (g : Addr) (outs : List Str) (s' : Shared) : Prop :=
  ∀ tk (Q : Value → Shared → Prop), (∀ r zs h' gens' tk', (∀ b o, s.heap.get? b = some o → h'.get? b = some o) → s.heap.get? r = none → IsL h' r zs → StrsAre zs outs → (AllBare s.gens → AllBare gens') →
      Q (.ref r) { s with heap := h', gens := gens', toks := tk' }) →
    wpAny (model PySem.Challenge.rw_il0132_01.row.prog w) (AN 500) (call (.type "list") [.ref g]) Q NoE { s' with toks := tk }

def tagOf (k : Int) : Str := if k = 1 then Str.ofString "- " else Str.ofString "+ "

theorem bare_fin {s₀ s : Shared} {H₀ : Heap} (f : FinG H₀ s₀ s₀.gens.size s) (hb : AllBare s₀.gens) : AllBare s.gens := by
  intro y hy
  obtain ⟨i, hi, rfl⟩ := Array.mem_iff_getElem.mp hy
  have hi' : i < s₀.gens.size + 1 := f.size ▸ hi
  rcases Nat.lt_or_ge i s₀.gens.size with q | q
  · have e := f.old i q
    rw [Array.getElem?_eq_getElem hi, Array.getElem?_eq_getElem q] at e
    rw [Option.some.inj e]
    exact hb _ (Array.getElem_mem q)
  · obtain rfl : i = s₀.gens.size := by omega
    have e := f.last
    rw [Array.getElem?_eq_getElem hi] at e
    rw [Option.some.inj e]; rfl

theorem items_strs {outs : List Str} {acc : Array Value} (h : ItemsOf (fun (j : Nat) (v : Value) => ∃ (y : Str) (t : Tok), outs[j]? = some y ∧ v = Value.str y t) acc outs.length) : StrsAre acc.toList outs := by
  obtain ⟨h1, h2⟩ := h
  have : ∀ (l : List Value) (os : List Str), l.length = os.length → (∀ (j : Nat) (v : Value), l[j]? = some v → ∃ (y : Str) (t : Tok), os[j]? = some y ∧ v = Value.str y t) → StrsAre l os := by
    intro l
    induction l with
    | nil => intro os hl _; cases os with | nil => exact .nil | cons _ _ => simp at hl
    | cons v l ih =>
      intro os hl hv
      cases os with
      | nil => simp at hl
      | cons y os =>
        obtain ⟨y', t, e, rfl⟩ := hv 0 v rfl
        cases e
        exact .cons _ _ (ih os (by simpa using hl) fun j v hj => hv (j + 1) v hj)
  exact this _ _ (by simpa using h1) fun j v hj => h2 j v (by simpa using hj)

theorem restore (w : World) {loose : List Str} {mg mb : Str → Option Value} (s : Shared) (l : Addr) (k : Int) (t : Tok) (vs : List Value) (lines : List Str)
  (Q : Value → Shared → Prop)
  (X : (Mine.hd.heap_39 w.params).In s.heap) (T : TopRead Mine.hd.view_39 loose mg mb s.heap) (hl : IsL s.heap l vs) (hvs : StrsAre vs lines) (hk : k = 1 ∨ k = 2)
  (hlen : lines.length ≤ sizeLine) (hsz : ∀ y ∈ lines, y.length ≤ sizeLine)
  (hret : ∀ g h₁ gens₁ tk, (∀ b o, s.heap.get? b = some o → h₁.get? b = some o) → ListReady w s g (outsS lines (restP (tagOf k)) restO) { s with heap := h₁, gens := gens₁, toks := tk } →
    Q (.ref g) { s with heap := h₁, gens := gens₁, toks := tk }) :
    wpAny (model PySem.Challenge.rw_il0132_01.row.prog w) (AN 500) (call (.ref 28) [.ref l, .int k t]) Q NoE s := by
  have X0 := X
  revert X; k_fill; intro X
  refine wpAny_call ?_
  refine' enter_gen ?k3 ?k5 ?k6 ?k7 ?k8 ?k9 ?kl ?_ ?kc ?c2 ?c3 ?c4
  case k3 => k_asm
  case k5 => exact TopRead.nolimit (by k_asm)
  case k6 => k_is
  case k7 => k_is
  case k8 => decide
  case k9 => exact BindsTo.of_eq rfl
  case kl => exact locs rfl
  case kc => decide
  case c2 => exact rfl
  case c3 => exact rfl
  case c4 => exact rfl
  intro h₁ tk F hz hg hlim
  refine hret _ h₁ _ tk F.keep ?_
  intro tk2 Q2 hQ2
  have hlim0 : s.heap.NoLimit := TopRead.nolimit T
  have hcs : ∃ o, s.heap.get? cStatics = some o := by obtain ⟨mc, ⟨o, _, _, ho, _⟩, _⟩ := hlim0; exact ⟨o, ho⟩
  have hS2 : ¬ h₁.objs.size < s.heap.objs.size + 2 := by rw [hz]; exact Nat.lt_irrefl _
  refine call_list_drain (n := (outsS lines (restP (tagOf k)) restO).length) (St := StG _ w (AN 500).in1.in1 s.heap s (s.heap.objs.size + 1) s.gens.size h₁.objs.size (outsS lines (restP (tagOf k)) restO)) (Fin := FinG s.heap s s.gens.size)
    (gsrc_of rfl (by decide) rfl hS2 hcs) ?_ ?_ ?_ ?_
  rotate_left
  · show s.heap.objs.size + 1 < h₁.objs.size
    rw [hz]; exact Nat.lt_succ_self _
  · intro s' acc' c' f hS' hacc
    obtain ⟨hh, gg, dd, tt, oo⟩ := s'
    obtain rfl : oo = s.os := f.os
    obtain rfl : dd = s.drawn := f.drawn
    refine hQ2 _ acc'.toList hh gg tt f.keep ?_ ⟨c', by simpa using hS'⟩ (items_strs hacc) (bare_fin f)
    exact none_of_le (show s.heap.objs.size ≤ h₁.objs.size by rw [hz]; exact Nat.le_add_right _ 2)
  · refine Nat.le_trans ?_ hlen
    unfold outsS; rw [List.length_map]; exact List.length_filter_le _ _
  · have keep1 : ∀ b o, h₁.get? b = some o → (h₁.push { cls := .type "list", data := .seq #[] }).get? b = some o := fun b o e => Heap.get?_push_of_some _ e
    refine ⟨hg.keeps keep1, hlim.keeps keep1, fun b o e => keep1 _ _ (F.keep b o e), rfl, rfl, by simp, fun i hi => by simp [Array.getElem?_push, Nat.ne_of_lt hi], ⟨_, Heap.get?_push_size _ rfl⟩, _, Array.getElem?_push_size, rfl, fun s3 hagr => ⟨rfl, ?_⟩⟩
    obtain ⟨og, nm, qn, hog, _⟩ := hg
    have hgS : s.heap.objs.size + 1 ≠ h₁.objs.size := by rw [hz]; exact Nat.ne_of_lt (Nat.lt_succ_self _)
    obtain ⟨oS, hoS⟩ := hagr.2
    have hne : ∀ b o, h₁.get? b = some o → s3.heap.get? b = some o := fun b o e => hagr.1 b o (Nat.ne_of_lt (Heap.lt_size e)) (keep1 _ _ e)
    have F3 := F.keeps hne
    have N3 : News s.heap s.heap.objs.size s3.heap [(s.heap.objs.size + 1, og), (h₁.objs.size, oS)] := by
      intro p hp
      rcases List.mem_cons.mp hp with rfl | hp
      · exact ⟨hne _ _ hog, Nat.succ_ne_self _, none_of_le (Nat.le_succ _)⟩
      · rw [List.mem_singleton] at hp
        subst hp
        exact ⟨hoS, fun q => hS2 (q ▸ Nat.lt_add_right 1 (Nat.lt_succ_self _)), none_of_le (show s.heap.objs.size ≤ h₁.objs.size by rw [hz]; exact Nat.le_add_right _ 2)⟩
    rw [Nat.sub_zero]
    refine' seg_restore (prog := PySem.Challenge.rw_il0132_01.row.prog) (w := w) (A := (AN 500).in1.in1.in1) (H₀ := s.heap) (S := h₁.objs.size) (l := l) (og := og) (oS := oS) (vs := vs) (lines := lines) (pn := Str.ofString "prefixes") (dn := Str.ofString "delta") (x := Str.ofString "line") (pt := default) (pz := restP (tagOf k)) (out := restO) (s := s3)
      ?a1 ?a2 ?a3 ?aa ?a4 ?a5 ?a6 ?a7 ?a8 ?a9 ?b1 ?b2 ?b3 ?b4 ?b5 ?b6 ?b7 ?b8 ?b9 ?c1 ?c2 ?c3
    case a1 => rfl
    case a2 => decide
    case a3 => decide
    case aa => exact hsz
    case a4 => exact hvs
    case a5 => exact hl.list
    case a6 => rfl
    case a7 => rfl
    case a8 => decide
    case a9 => rfl
    case b1 => rfl
    case b2 => rfl
    case b3 => exact fun _ => rfl
    case b4 => exact fun s m Q hn hm hq => wpAny_Name (wpAny_loadName_local rfl rfl hn hm hq)
    case b5 => exact hS2
    case b6 => exact F3.keep
    case b7 => exact hne _ _ hog
    case b8 => exact hoS
    case c1 => rfl
    case c2 => exact Nat.le_of_ble_eq_true rfl
    case c3 => exact fun I => ⟨rfl, rfl⟩
    case b9 =>
      intro Q3 hQ3
      walk1
      walk1
      refine ⟨rfl, ?_⟩
      obtain ⟨m₀, F4, hmd, hmw⟩ : ∃ m₀, Fr s.heap s.heap.objs.size s3.heap m₀ ∧ m₀ (Str.ofString "delta") = some (Value.ref l) ∧ m₀ (Str.ofString "which") = some (Value.int k t) := ⟨_, F3, by kernel_rfl, by kernel_rfl⟩
      clear F3 F
      refine wpAny_Try_except ?_
      refine wp_noE ?_
      rcases hk with rfl | rfl
      · iterate 37 walk1
        rename_i D h1 l1 h F N
        refine ⟨trivial, hQ3 D h _ _ _ F (news_drop2 N) (Nat.ne_of_gt l1.2.2) (Nat.ne_of_gt (Nat.lt_of_succ_lt l1.2.1)) rfl (by show (if _ then _ else if _ then _ else m₀ _) = _; rw [if_neg (by decide), if_neg (by decide)]; exact hmd) ⟨?_, ?_⟩⟩
        · intro h m y ty s hs F N hm hx hy
          subst hs
          exact r_test w X T s m y ty F N hm hx hy
        · intro h m y ty s hs F N hm hx hy
          subst hs
          exact r_elt w X T s m y ty F N hm hx hy
      · iterate 37 walk1
        rename_i D h1 l1 h F N
        refine ⟨trivial, hQ3 D h _ _ _ F (news_drop2 N) (Nat.ne_of_gt l1.2.2) (Nat.ne_of_gt (Nat.lt_of_succ_lt l1.2.1)) rfl (by show (if _ then _ else if _ then _ else m₀ _) = _; rw [if_neg (by decide), if_neg (by decide)]; exact hmd) ⟨?_, ?_⟩⟩
        · intro h m y ty s hs F N hm hx hy
          subst hs
          exact r_test w X T s m y ty F N hm hx hy
        · intro h m y ty s hs F N hm hx hy
          subst hs
          exact r_elt w X T s m y ty F N hm hx hy

end

section
theorem sle_antisymm {a b : Str} (h : Spec.ltCps a.cps.toList b.cps.toList = false) (h' : Spec.ltCps b.cps.toList a.cps.toList = false) : a = b := by
  rw [ltCps_eq, decide_eq_false_iff_not, List.not_lt] at h h'
  have e := List.le_antisymm h' h
  obtain ⟨⟨a⟩⟩ := a
  obtain ⟨⟨b⟩⟩ := b
  exact congrArg _ (congrArg _ e)
theorem sle_trans {a b c : Str} (h : Spec.ltCps b.cps.toList a.cps.toList = false) (h' : Spec.ltCps c.cps.toList b.cps.toList = false) : Spec.ltCps c.cps.toList a.cps.toList = false := by
  rw [ltCps_eq, decide_eq_false_iff_not, List.not_lt] at h h' ⊢
  exact List.le_trans h h'

theorem risingS_all : ∀ (p : Str) (l : List Str), risingS p l = true → (∀ x ∈ l, Spec.ltCps x.cps.toList p.cps.toList = false) ∧ sortedS l = true
  | _, [], _ => ⟨by simp, rfl⟩
  | p, x :: r, h => by
    simp only [risingS, Bool.and_eq_true, Bool.not_eq_true'] at h
    have ih := risingS_all x r h.2
    refine ⟨fun y hy => ?_, h.2⟩
    rcases List.mem_cons.mp hy with rfl | hy
    · exact h.1
    · exact sle_trans h.1 (ih.1 y hy)

theorem sorted_unique : ∀ (l l' : List Str), sortedS l = true → sortedS l' = true → l.Perm l' → l = l'
  | [], l', _, _, p => by rw [List.nil_perm.mp p]
  | x :: r, [], _, _, p => by have := p.length_eq; simp at this
  | x :: r, y :: t, h, h', p => by
    have hx := risingS_all x r h
    have hy := risingS_all y t h'
    have e : x = y := by
      have m1 : y ∈ x :: r := p.symm.subset (List.mem_cons_self ..)
      have m2 : x ∈ y :: t := p.subset (List.mem_cons_self ..)
      rcases List.mem_cons.mp m1 with e | m1
      · exact e.symm
      rcases List.mem_cons.mp m2 with e | m2
      · exact e
      exact sle_antisymm (hy.1 x m2) (hx.1 y m1)
    subst e
    rw [sorted_unique r t hx.2 hy.2 (List.perm_cons x |>.mp p)]

theorem beyondN_count (xs ys : List Str) (x : Str) : ∀ i, (beyondN xs ys i).count x = (xs.take i).count x - ys.count x
  | 0 => by simp [beyondN]
  | i + 1 => by
    rw [beyondN, List.count_append, beyondN_count xs ys x i]
    cases h : xs[i]? with
    | none =>
      have : xs.length ≤ i := List.getElem?_eq_none_iff.mp h
      rw [List.take_of_length_le this, List.take_of_length_le (by omega)]
      simp
    | some y =>
      have e : xs.take (i + 1) = xs.take i ++ [y] := by rw [List.take_add_one, h]; rfl
      rw [e, List.count_append]
      simp only
      by_cases hxy : y = x
      · subst hxy
        split
        · simp; omega
        · simp; omega
      · have h1 : [y].count x = 0 := by simp [hxy]
        split
        · rw [h1]; omega
        · rw [h1]; simp

/-- what unorderable_list_difference leaves: the list popped stands reversed -/
def unord : List Str → List Str → List Str → List Str × List Str
  | [], a, m => (m, a)
  | x :: r, a, m => if x ∈ a then unord r (a.erase x) m else unord r a (m ++ [x])

theorem unord_count (x : Str) : ∀ (e a m : List Str), (unord e a m).1.count x = m.count x + (e.count x - a.count x) ∧ (unord e a m).2.count x = a.count x - e.count x
  | [], a, m => by simp [unord]
  | y :: r, a, m => by
    simp only [unord]
    split
    · rename_i h
      have ih := unord_count x r (a.erase y) m
      by_cases hxy : y = x
      · subst hxy
        have hc : 0 < a.count y := List.count_pos_iff.mpr h
        rw [ih.1, ih.2, List.count_erase_self, List.count_cons_self]
        omega
      · rw [ih.1, ih.2, List.count_erase_of_ne (Ne.symm hxy), List.count_cons_of_ne hxy]
        omega
    · rename_i h
      have ih := unord_count x r a (m ++ [y])
      by_cases hxy : y = x
      · subst hxy
        have hc : a.count y = 0 := List.count_eq_zero.mpr h
        rw [ih.1, ih.2, List.count_append, List.count_cons_self, hc]
        simp; omega
      · rw [ih.1, ih.2, List.count_append, List.count_cons_of_ne hxy]
        simp [hxy]

theorem count_take_full (l : List Str) : l.take l.length = l := List.take_of_length_le (Nat.le_refl _)

/-- the two sorted comparisons of _law_pair -/
theorem sorted_missing {left right mine yours ms bs : List Str} (hc : ∀ x, left.count x + yours.count x = right.count x + mine.count x)
    (h1 : ms.Perm (unord left.reverse right []).1) (s1 : sortedS ms = true) (h2 : bs.Perm (beyondN mine yours mine.length)) (s2 : sortedS bs = true) : ms = bs := by
  refine sorted_unique _ _ s1 s2 (h1.trans (.trans ?_ h2.symm))
  rw [List.perm_iff_count]
  intro x
  rw [(unord_count x _ _ _).1, beyondN_count, count_take_full, List.count_reverse]
  have := hc x
  simp
  omega
theorem sorted_beyond {left right mine yours ms bs : List Str} (hc : ∀ x, left.count x + yours.count x = right.count x + mine.count x)
    (h1 : ms.Perm (unord left.reverse right []).2) (s1 : sortedS ms = true) (h2 : bs.Perm (beyondN yours mine yours.length)) (s2 : sortedS bs = true) : ms = bs := by
  refine sorted_unique _ _ s1 s2 (h1.trans (.trans ?_ h2.symm))
  rw [List.perm_iff_count]
  intro x
  rw [(unord_count x _ _ _).2, beyondN_count, count_take_full, List.count_reverse]
  have := hc x
  omega

/-- one entry for the first of each text that fits -/
def emits {α : Type} (l : List Str) (c : Str → Bool) (f : Str → α) : Nat → List α
  | 0 => []
  | i + 1 => emits l c f i ++ (match l[i]? with | some x => if x ∉ l.take i ∧ c x = true then [f x] else [] | none => [])
theorem emits_congr {α : Type} {l : List Str} {c c' : Str → Bool} {f : Str → α} (h : ∀ x, c x = c' x) : ∀ i, emits l c f i = emits l c' f i
  | 0 => rfl
  | i + 1 => by simp only [emits, emits_congr h i, h]

end

section
theorem MMold' {h₀ h : Heap} {l : List (Addr × Obj)} (D : W.X.Mem h₀ h [] l) : ∀ b o, h₀.get? b = some o → h.get? b = some o := fun b o e => D.keep b o e (by cases W.X.hasCls o <;> rfl)
theorem MMnew' {h₀ h : Heap} {l : List (Addr × Obj)} {p : Addr × Obj} (D : W.X.Mem h₀ h [] (p :: l)) : h₀.get? p.1 = none ∧ h.get? p.1 = some p.2 := ⟨(D.nw _ (.head _)).2, (D.nw _ (.head _)).1⟩
abbrev bareObj : Obj := { cls := .type "object", data := .plain }
section
local macro_rules | `(tactic| x_close) => `(tactic| (refine ⟨_, _, _, rfl, rfl, MMold' (by assumption), (MMnew' (by assumption)).1, (MMnew' (by assumption)).2⟩))
theorem obj_new (w : World) (s : Shared) :
    wpAny (model PySem.Challenge.rw_il0132_01.row.prog w) AB (call (.type "object") [])
      (fun v s' => ∃ r h' tk', v = .ref r ∧ s' = { s with heap := h', toks := tk' } ∧ (∀ b o, s.heap.get? b = some o → h'.get? b = some o) ∧ s.heap.get? r = none ∧ h'.get? r = some bareObj) NoE s := by
  x_run
end
section
local macro_rules | `(tactic| x_close) => `(tactic| (first | exact ⟨rfl, _, rfl, fun _ _ e => e⟩ | refine ⟨rfl, _, rfl, MMold' (by assumption)⟩))
theorem decl_str (w : World) (s : Shared) (x : Str) (t : Tok) (n : Addr) (h : s.heap.get? n = some bareObj) :
    wpAny (model PySem.Challenge.rw_il0132_01.row.prog w) AB (call (.builtin "str.__eq__") [.str x t, .ref n])
      (fun v s' => v = .notImplemented ∧ ∃ h', s' = { s with heap := h' } ∧ (∀ b o, s.heap.get? b = some o → h'.get? b = some o)) NoE s := by
  have h' : s.heap.get? n = some ⟨.type "object", none, .plain, #[]⟩ := h
  clear h
  x_run
theorem decl_obj (w : World) (s : Shared) (x : Str) (t : Tok) (n : Addr) (h : s.heap.get? n = some bareObj) :
    wpAny (model PySem.Challenge.rw_il0132_01.row.prog w) AB (call (.builtin "object.__eq__") [.ref n, .str x t])
      (fun v s' => v = .notImplemented ∧ ∃ h', s' = { s with heap := h' } ∧ (∀ b o, s.heap.get? b = some o → h'.get? b = some o)) NoE s := by
  have h' : s.heap.get? n = some ⟨.type "object", none, .plain, #[]⟩ := h
  clear h
  x_run
end
theorem eq_obj_str (w : World) {A : Around} {E : Value → Shared → Prop} (s : Shared) (x : Str) (t : Tok) (n : Addr) (h : s.heap.get? n = some bareObj) (Q : Value → Shared → Prop)
    (hA1 : A.handled = none) (hA2 : A.depth ≤ 600) (hA3 : A.units ≤ 600)
    (hQ : ∀ h', (∀ b o, s.heap.get? b = some o → h'.get? b = some o) → Q (.bool false) { s with heap := h' }) :
    wpAny (model PySem.Challenge.rw_il0132_01.row.prog w) A (compareOp .Eq (.ref n) (.str x t)) Q E s := by
  refine wp_noE (wp_AB hA1 hA2 hA3 ?_)
  have ha : s.TypeIs (.ref n) "object" := ⟨_, h, rfl⟩
  have hb := typeIs_str s x t
  show wpAny _ _ (richCompare .Eq (.ref n) (.str x t)) _ _ _
  simp only [richCompare, cmpInfo, ha.oneThing_none]
  refine wpAny_holding ?_
  refine wpAny_bind (wpAny_cRoomFor (by decide) ?_)
  refine wpAny_bind (wpAny_typeOf ha (wpAny_bind (wpAny_typeOf hb ?_)))
  have hne : (Value.type "object" != Value.type "str") = true := by decide
  simp only [hne, if_true]
  refine wpAny_bind (wpAny_of_eq (a := true) (by rw [isSubtype_type]; kernel_rfl) ?_)
  simp only [if_true]
  refine wpAny_bind (m := tryCompare _ _ _) (wpAny_tryCompare_declines hb F.slot_str_eq (wpAny_mono (decl_str w s x t n h) (fun v s₁ h₁ => ⟨h₁.1, ?_⟩) fun _ _ x => x))
  obtain ⟨h', rfl, hk⟩ := h₁.2
  refine wpAny_bind (m := tryCompare _ _ _) (wpAny_tryCompare_declines ⟨_, hk _ _ h, rfl⟩ F.slot_object_eq (wpAny_mono (decl_obj w { s with heap := h' } x t n (hk _ _ h)) (fun v s₁ h₁ => ⟨h₁.1, ?_⟩) fun _ _ x => x))
  obtain ⟨h'', rfl, hk'⟩ := h₁.2
  exact wpAny_bind (wpAny_rule (wpAny_bind (wpAny_pure (wpAny_pure (hQ h'' fun b o e => hk' _ _ (hk _ _ e))))))

end

section
def blank (N : Addr) (vs : List Value) (p : Nat → Bool) : List Value := vs.mapIdx fun i v => if p i then Value.ref N else v
theorem blank_len (N : Addr) (vs : List Value) (p : Nat → Bool) : (blank N vs p).length = vs.length := by simp [blank]
theorem blank_at (N : Addr) (vs : List Value) (p : Nat → Bool) (i : Nat) : (blank N vs p)[i]? = vs[i]?.map fun v => if p i then Value.ref N else v := by simp [blank]
theorem blank_congr {N : Addr} {vs : List Value} {p q : Nat → Bool} (h : ∀ i, i < vs.length → p i = q i) : blank N vs p = blank N vs q := by
  apply List.ext_getElem?
  intro i
  rw [blank_at, blank_at]
  cases e : vs[i]? with
  | none => rfl
  | some v => rw [h i (List.getElem?_eq_some_iff.mp e).1]
theorem blank_set {N : Addr} {vs : List Value} {p q : Nat → Bool} {j : Nat} (hj : q j = true) (h : ∀ i, i ≠ j → q i = p i) : (blank N vs p).set j (.ref N) = blank N vs q := by
  apply List.ext_getElem?
  intro i
  rw [List.getElem?_set]
  split
  · rename_i e
    subst e
    rw [blank_at, hj, blank_len]
    split
    · rename_i hlt
      rw [List.getElem?_eq_getElem hlt]; rfl
    · rename_i hge
      rw [List.getElem?_eq_none (by omega)]; rfl
  · rename_i e
    rw [blank_at, blank_at, h i (Ne.symm e)]
theorem blank_none {N : Addr} {vs : List Value} {p : Nat → Bool} (h : ∀ i, p i = false) : blank N vs p = vs := by
  apply List.ext_getElem?
  intro i
  rw [blank_at, h i]
  cases vs[i]? <;> rfl

/-- blanked: the texts seen, and x below j -/
def pat (xs : List Str) (seen : List Str) (x : Str) (j : Nat) : Nat → Bool := fun q => match xs[q]? with | some y => seen.contains y || (decide (q < j) && (y == x)) | none => false
def patS (xs : List Str) (seen : List Str) : Nat → Bool := fun q => match xs[q]? with | some y => seen.contains y | none => false

theorem pat_start {xs seen : List Str} {x : Str} {i : Nat} (h : x ∉ xs.take i) (q : Nat) : pat xs seen x i q = patS xs seen q := by
  unfold pat patS
  cases e : xs[q]? with
  | none => rfl
  | some y =>
    by_cases hq : q < i
    · have : y ≠ x := fun hy => h (by
        subst hy
        exact List.mem_of_getElem? (i := q) (by rw [List.getElem?_take, if_pos hq]; exact e))
      simp [hq, this]
    · simp [hq]
theorem pat_end {xs seen : List Str} {x : Str} (q : Nat) : pat xs seen x xs.length q = patS xs (seen ++ [x]) q := by
  unfold pat patS
  cases e : xs[q]? with
  | none => rfl
  | some y =>
    have hq := (List.getElem?_eq_some_iff.mp e).1
    rw [Bool.eq_iff_iff]
    simp [hq]
theorem pat_same {xs seen : List Str} {x y : Str} {j : Nat} (hy : xs[j]? = some y) (h : y ≠ x ∨ y ∈ seen) (q : Nat) : pat xs seen x (j + 1) q = pat xs seen x j q := by
  unfold pat
  cases e : xs[q]? with
  | none => rfl
  | some z =>
    by_cases hq : q = j
    · subst hq
      rw [hy] at e; cases e
      rcases h with h | h
      · simp [h]
      · simp [h]
    · have : decide (q < j + 1) = decide (q < j) := by
        rw [decide_eq_decide]; omega
      simp [this]
theorem pat_hit {xs seen : List Str} {x : Str} {j : Nat} (hy : xs[j]? = some x) : pat xs seen x (j + 1) j = true ∧ ∀ q, q ≠ j → pat xs seen x (j + 1) q = pat xs seen x j q := by
  constructor
  · unfold pat; rw [hy]; simp
  · intro q hq
    unfold pat
    cases e : xs[q]? with
    | none => rfl
    | some z =>
      have : decide (q < j + 1) = decide (q < j) := by rw [decide_eq_decide]; omega
      simp [this]
theorem pat_item {xs seen : List Str} {x y : Str} {j : Nat} (hy : xs[j]? = some y) : pat xs seen x j j = seen.contains y := by
  unfold pat; rw [hy]; simp

end

section
local macro_rules | `(tactic| walk_at "PAD") => `(tactic| skip)
local macro_rules | `(tactic| walk_at "PAD") => `(tactic| skip)
local macro_rules | `(tactic| walk_at "PAD") => `(tactic| skip)
local macro_rules | `(tactic| walk_at "eval Name") => `(tactic| ((with_reducible show wpAny _ _ (eval (Expr.Name _ _) (envOf _ _ _ _ _)) _ _ _); refine' wpAny_Name (wpAny_loadName_local rfl rfl ?hn ?hv ?_); (case hn => with_reducible assumption); (case hv => walk_at "MLOOK")))
local macro_rules | `(tactic| walk_at "storeName") => `(tactic| (refine' wpAny_storeName_local rfl ?hn ?_ rfl; (case hn => with_reducible assumption); intro _ _ _))
abbrev cenv (L : Addr) : Env := envOf (Str.ofString "_count_diff_all_purpose") { kind := ScopeKind.function, names := [(Str.ofString "actual", NameKind.local), (Str.ofString "expected", NameKind.local), (Str.ofString "s", NameKind.local), (Str.ofString "t", NameKind.local), (Str.ofString "m", NameKind.local), (Str.ofString "n", NameKind.local), (Str.ofString "NULL", NameKind.local), (Str.ofString "result", NameKind.local), (Str.ofString "i", NameKind.local), (Str.ofString "elem", NameKind.local), (Str.ofString "cnt_s", NameKind.local), (Str.ofString "cnt_t", NameKind.local), (Str.ofString "j", NameKind.local), (Str.ofString "other_elem", NameKind.local), (Str.ofString "diff", NameKind.local), (Str.ofString "list", NameKind.globalImplicit), (Str.ofString "len", NameKind.globalImplicit), (Str.ofString "object", NameKind.globalImplicit), (Str.ofString "enumerate", NameKind.globalImplicit), (Str.ofString "range", NameKind.globalImplicit), (Str.ofString "_Mismatch", NameKind.globalImplicit)], isGenerator := false, isCoroutine := false } L 159 (Value.ref 158)
theorem inner_s (w : World) {A : Around} {R : Result → Shared → Prop} {L S N I : Addr} {vs : List Value} {xs seen : List Str} {x : Str} {tx : Tok} {p1 p2 p3 p4 p5 p6 p7 p8 p9 p10 p11 p12 p13 p14 p15 : Pos}
    (hA1 : A.handled = none) (hA2 : A.depth ≤ 600) (hA3 : A.units ≤ 600) (i : Nat) (s : Shared) (m₀ : Str → Option Value) (hvs : StrsAre vs xs) (hi : i ≤ xs.length) (hn : xs.length ≤ 64) (hxs : x ∉ seen) (hxi : x ∉ xs.take i)
    (hS : IsL s.heap S (blank N vs (patS xs seen))) (hN : s.heap.get? N = some bareObj) (hI : IsRangeIter s.heap I (i : Int) ((xs.length : Int) - i) 1) (hns : s.heap.Ns L m₀)
    (m1 : m₀ (Str.ofString "s") = some (.ref S)) (m2 : m₀ (Str.ofString "elem") = some (.str x tx)) (m3 : ∃ t, m₀ (Str.ofString "cnt_s") = some (.int 0 t)) (m4 : m₀ (Str.ofString "NULL") = some (.ref N))
    (hSL : S ≠ L) (hIL : I ≠ L) (hNL : N ≠ L) (hSI : S ≠ I) (hNS : N ≠ S) (hNI : N ≠ I)
    (hR : ∀ h tk m tc, (∀ z, z ≠ Str.ofString "j" → z ≠ Str.ofString "cnt_s" → m z = m₀ z) → m (Str.ofString "cnt_s") = some (.int (xs.count x : Nat) tc) → h.Ns L m → IsL h S (blank N vs (patS xs (seen ++ [x]))) →
      (∀ b o, b ≠ S → b ≠ L → b ≠ I → s.heap.get? b = some o → h.get? b = some o) → R (.ok .next) { s with heap := h, toks := tk }) :
    codeAny (model PySem.Challenge.rw_il0132_01.row.prog w) A (.forLoop (.Name (Str.ofString "j") p1) (.ref I)
      [.If (.Compare (.Subscript (.Name (Str.ofString "s") p2) (.Name (Str.ofString "j") p3) p4) [.Eq] [.Name (Str.ofString "elem") p5] p6)
        [.AugAssign (.Name (Str.ofString "cnt_s") p7) .Add (.Constant (.int 1) 0 p8) p9, .Assign [.Subscript (.Name (Str.ofString "s") p10) (.Name (Str.ofString "j") p11) p12] (.Name (Str.ofString "NULL") p13) p14] [] p15] [] (cenv L)) R s := by
  have hlen := hvs.len_eq
  refine for_go (xs.length - i) (fun q s' => ∃ h tk m tc, s' = { s with heap := h, toks := tk } ∧ (∀ z, z ≠ Str.ofString "j" → z ≠ Str.ofString "cnt_s" → m z = m₀ z) ∧ m (Str.ofString "cnt_s") = some (.int ((xs.take (i + q)).count x : Nat) tc) ∧ h.Ns L m ∧
    IsL h S (blank N vs (pat xs seen x (i + q))) ∧ IsRangeIter h I ((i + q : Nat) : Int) ((xs.length : Int) - (i + q : Nat)) 1 ∧ (∀ b o, b ≠ S → b ≠ L → b ≠ I → s.heap.get? b = some o → h.get? b = some o)) (fun _ => True) ?_ ?_ ?_
  · rintro q s' hq ⟨h, tk, m, tc, rfl, hm, hc, hns', hS', hI', hk⟩
    have hj : i + q < xs.length := by omega
    refine wpAny_pyNext_range_item hI' (by omega) fun h₁ hI₁ hs₁ => ?_
    show wpAny _ A (letOwnedTupleGo (.Name _ _) (.ref I) _) _ _ _
    refine wpAny_pure ?_
    have hns₁ : h₁.Ns L m := hns'.at' fun o e => hs₁.extBut _ _ (Ne.symm hIL) e
    refine wpAny_assign_Name (wpAny_storeName_local rfl hns₁ (fun h₂ hns₂ hs₂ => ?_) rfl)
    have hS₂ : IsL h₂ S (blank N vs (pat xs seen x (i + q))) := by obtain ⟨e, hS'⟩ := hS'; exact ⟨e, hs₂.extBut _ _ hSL (hs₁.extBut _ _ hSI hS')⟩
    have hN₂ : h₂.get? N = some bareObj := hs₂.extBut _ _ hNL (hs₁.extBut _ _ hNI (hk _ _ hNS hNL hNI hN))
    have hI₂ : IsRangeIter h₂ I ((i + (q + 1) : Nat) : Int) ((xs.length : Int) - (i + (q + 1) : Nat)) 1 := by
      have := hs₂.extBut _ _ hIL hI₁
      have e1 : ((i + q : Nat) : Int) + 1 = ((i + (q + 1) : Nat) : Int) := by omega
      have e2 : (xs.length : Int) - (i + q : Nat) - 1 = (xs.length : Int) - (i + (q + 1) : Nat) := by omega
      rw [e1, e2] at this
      exact this
    have hk₂ : ∀ b o, b ≠ S → b ≠ L → b ≠ I → s.heap.get? b = some o → h₂.get? b = some o := fun b o b1 b2 b3 e => hs₂.extBut _ _ b2 (hs₁.extBut _ _ b3 (hk b o b1 b2 b3 e))
    clear hS' hI' hk hI₁ hs₁ hs₂ hns' hns₁
    -- values of names
    have g1 : m (Str.ofString "s") = some (.ref S) := (hm _ (by decide) (by decide)).trans m1
    have g2 : m (Str.ofString "elem") = some (.str x tx) := (hm _ (by decide) (by decide)).trans m2
    have g4 : m (Str.ofString "NULL") = some (.ref N) := (hm _ (by decide) (by decide)).trans m4
    obtain ⟨y, hy⟩ : ∃ y, xs[i + q]? = some y := ⟨_, List.getElem?_eq_getElem hj⟩
    obtain ⟨ty, hv⟩ := hvs.at hy
    have hitem : (blank N vs (pat xs seen x (i + q)))[((i + q : Nat) : Int).toNat]? = some (if seen.contains y then .ref N else .str y ty) := by
      rw [Int.toNat_natCast, blank_at, hv, pat_item hy]; rfl
    have htake : (xs.take (i + (q + 1))).count x = (xs.take (i + q)).count x + (if y = x then 1 else 0) := by
      have e : xs.take (i + (q + 1)) = xs.take (i + q) ++ [y] := by rw [show i + (q + 1) = (i + q) + 1 by omega, List.take_add_one, hy]; rfl
      rw [e, List.count_append]
      by_cases hyx : y = x
      · subst hyx; simp
      · simp [hyx]
    -- the turn
    have hfin : ∀ h3 tk3 m3' tc3, (∀ z, z ≠ Str.ofString "j" → z ≠ Str.ofString "cnt_s" → m3' z = m₀ z) → m3' (Str.ofString "cnt_s") = some (.int ((xs.take (i + (q + 1))).count x : Nat) tc3) → h3.Ns L m3' →
        IsL h3 S (blank N vs (pat xs seen x (i + (q + 1)))) → (∀ b o, b ≠ S → b ≠ L → h₂.get? b = some o → h3.get? b = some o) →
        ∃ h tk m tc, ({ s with heap := h3, toks := tk3 } : Shared) = { s with heap := h, toks := tk } ∧ (∀ z, z ≠ Str.ofString "j" → z ≠ Str.ofString "cnt_s" → m z = m₀ z) ∧ m (Str.ofString "cnt_s") = some (.int ((xs.take (i + (q + 1))).count x : Nat) tc) ∧ h.Ns L m ∧
    IsL h S (blank N vs (pat xs seen x (i + (q + 1)))) ∧ IsRangeIter h I ((i + (q + 1) : Nat) : Int) ((xs.length : Int) - (i + (q + 1) : Nat)) 1 ∧ (∀ b o, b ≠ S → b ≠ L → b ≠ I → s.heap.get? b = some o → h.get? b = some o) :=
      fun h3 tk3 m3' tc3 a1 a2 a3 a4 a5 => ⟨h3, tk3, m3', tc3, rfl, a1, a2, a3, a4, a5 _ _ (Ne.symm hSI) hIL hI₂, fun b o b1 b2 b3 e => a5 _ _ b1 b2 (hk₂ b o b1 b2 b3 e)⟩
    have hmj : ∀ z, z ≠ Str.ofString "j" → z ≠ Str.ofString "cnt_s" → (fun z => if z = Str.ofString "j" then some (Value.int ((i + q : Nat) : Int) tk) else m z) z = m₀ z := fun z z1 z2 => (if_neg z1).trans (hm z z1 z2)
    dsimp only
    iterate 6 walk1
    refine item_listL (IsL.list hS₂) (by omega) (by omega) hitem ?_
    walk1
    by_cases hseen : seen.contains y = true
    · rw [if_pos hseen]
      have hyx : y ≠ x := fun e => by subst e; simp at hseen; exact hxs hseen
      refine eq_obj_str w _ x tx N hN₂ _ hA1 hA2 hA3 fun h3 hk3 => ?_
      iterate 3 walk1
      refine wpAny_execs_nil ?_
      refine hfin h3 _ _ tc hmj ?_ (hns₂.keeps hk3) ?_ (fun b o _ _ e => hk3 _ _ e)
      · rw [htake, if_neg hyx, Nat.add_zero]; exact (if_neg (by decide)).trans hc
      · rw [show i + (q + 1) = (i + q) + 1 by omega, blank_congr (fun q' _ => pat_same hy (.inl hyx) q')]
        exact hS₂.keep hk3
    · rw [if_neg hseen]
      walk1
      by_cases hyx : y = x
      · subst hyx
        rw [show (y == y) = true from beq_self_eq_true y]
        iterate 2 walk1
        refine wpAny_execs_cons ?_
        refine wpAny_AugAssign_Name ?_
        refine wpAny_loadName_local rfl rfl hns₂ (Eq.trans (if_neg (by decide)) hc) ?_
        iterate 2 walk1
        refine wpAny_storeName_local rfl hns₂ (fun h3 hns3 hs3 => ?_) rfl
        have hS3 : IsL h3 S (blank N vs (pat xs seen y (i + q))) := by obtain ⟨e, hS₂⟩ := hS₂; exact ⟨e, hs3.extBut _ _ hSL hS₂⟩
        clear hns₂
        dsimp only
        refine wpAny_execs_cons ?_
        iterate 4 walk1
        obtain ⟨e3, hS3⟩ := hS3
        refine ki_setAt hS3 (by omega) (by omega) (by rw [List.size_toArray, blank_len, hlen]; omega) ?_
        refine wpAny_execs_nil ?_
        refine wpAny_execs_nil ?_
        have other : ∀ b o, b ≠ S → h3.get? b = some o → (h3.update S (Obj.mapSeq (·.setIfInBounds ((i + q : Nat) : Int).toNat (Value.ref N)))).get? b = some o := fun b o hb e => (Heap.get?_update_other _ _ (Ne.symm hb)).trans e
        refine' hfin _ _ _ ?tc (fun z z1 z2 => (if_neg z2).trans ((if_neg z1).trans (hm z z1 z2))) ?c (hns3.at' fun o e => other _ _ (Ne.symm hSL) e) ?S (fun b o b1 b2 e => other _ _ b1 (hs3.extBut _ _ b2 e))
        case c =>
          refine (if_pos rfl).trans ?_
          rw [htake, if_pos rfl, Int.natCast_add]
          rfl
        case S =>
          have up := PySem.IsL.update hS3 (·.setIfInBounds ((i + q : Nat) : Int).toNat (Value.ref N))
          have ph := pat_hit (seen := seen) hy
          have e : ((blank N vs (pat xs seen y (i + q))).toArray.setIfInBounds ((i + q : Nat) : Int).toNat (Value.ref N)) = (blank N vs (pat xs seen y (i + (q + 1)))).toArray := by
            rw [Int.toNat_natCast, List.setIfInBounds_toArray, show i + (q + 1) = (i + q) + 1 by omega, blank_set ph.1 ph.2]
          rw [e] at up
          exact ⟨_, up⟩
      · rw [show (y == x) = false from beq_false_of_ne hyx]
        iterate 3 walk1
        refine wpAny_execs_nil ?_
        refine hfin h₂ _ _ tc hmj ?_ hns₂ ?_ (fun b o _ _ e => e)
        · rw [htake, if_neg hyx, Nat.add_zero]; exact (if_neg (by decide)).trans hc
        · rw [show i + (q + 1) = (i + q) + 1 by omega, blank_congr (fun q' _ => pat_same hy (.inl hyx) q')]
          exact hS₂
  · rintro s' ⟨h, tk, m, tc, rfl, hm, hc, hns', hS', hI', hk⟩
    refine wpAny_pyNext_range_end hA1 hI' (by omega) fun h' hk' => ?_
    rw [show i + (xs.length - i) = xs.length by omega] at hc hS'
    rw [List.take_of_length_le (Nat.le_refl _)] at hc
    refine hR h' tk m tc hm hc (hns'.at' fun o e => hk' _ _ (Ne.symm hIL) e) ?_ fun b o b1 b2 b3 e => hk' _ _ b3 (hk b o b1 b2 b3 e)
    rw [← blank_congr (fun q _ => pat_end q)]
    obtain ⟨e, hS'⟩ := hS'
    exact ⟨e, hk' _ _ hSI hS'⟩
  · obtain ⟨t3, m3⟩ := m3
    have e0 : (xs.take i).count x = 0 := List.count_eq_zero.mpr hxi
    refine ⟨s.heap, s.toks, m₀, t3, rfl, fun _ _ _ => rfl, by rw [Nat.add_zero, e0]; exact m3, hns, ?_, by rw [Nat.add_zero]; exact hI, fun _ _ _ _ _ e => e⟩
    rw [Nat.add_zero, blank_congr (fun q _ => pat_start hxi q)]
    exact hS
theorem inner_t (w : World) {A : Around} {R : Result → Shared → Prop} {L S N I : Addr} {vs : List Value} {xs seen : List Str} {x : Str} {tx : Tok} {p1 p2 p3 p4 p5 p6 p7 p8 p9 p10 p11 p12 p13 p14 p15 : Pos}
    (hA1 : A.handled = none) (hA2 : A.depth ≤ 600) (hA3 : A.units ≤ 600) (i : Nat) (s : Shared) (m₀ : Str → Option Value) (hvs : StrsAre vs xs) (hi : i ≤ xs.length) (hn : xs.length ≤ 64) (hxs : x ∉ seen) (hxi : x ∉ xs.take i)
    (hS : IsL s.heap S (blank N vs (patS xs seen))) (hN : s.heap.get? N = some bareObj) (hI : IsRangeIter s.heap I (i : Int) ((xs.length : Int) - i) 1) (hns : s.heap.Ns L m₀)
    (m1 : m₀ (Str.ofString "t") = some (.ref S)) (m2 : m₀ (Str.ofString "elem") = some (.str x tx)) (m3 : ∃ t, m₀ (Str.ofString "cnt_t") = some (.int 0 t)) (m4 : m₀ (Str.ofString "NULL") = some (.ref N))
    (hSL : S ≠ L) (hIL : I ≠ L) (hNL : N ≠ L) (hSI : S ≠ I) (hNS : N ≠ S) (hNI : N ≠ I)
    (hR : ∀ h tk m tc, (∀ z, z ≠ Str.ofString "j" → z ≠ Str.ofString "cnt_t" → m z = m₀ z) → m (Str.ofString "cnt_t") = some (.int (xs.count x : Nat) tc) → h.Ns L m → IsL h S (blank N vs (patS xs (seen ++ [x]))) →
      (∀ b o, b ≠ S → b ≠ L → b ≠ I → s.heap.get? b = some o → h.get? b = some o) → R (.ok .next) { s with heap := h, toks := tk }) :
    codeAny (model PySem.Challenge.rw_il0132_01.row.prog w) A (.forLoop (.Name (Str.ofString "j") p1) (.ref I)
      [.If (.Compare (.Subscript (.Name (Str.ofString "t") p2) (.Name (Str.ofString "j") p3) p4) [.Eq] [.Name (Str.ofString "elem") p5] p6)
        [.AugAssign (.Name (Str.ofString "cnt_t") p7) .Add (.Constant (.int 1) 0 p8) p9, .Assign [.Subscript (.Name (Str.ofString "t") p10) (.Name (Str.ofString "j") p11) p12] (.Name (Str.ofString "NULL") p13) p14] [] p15] [] (cenv L)) R s := by
  have hlen := hvs.len_eq
  refine for_go (xs.length - i) (fun q s' => ∃ h tk m tc, s' = { s with heap := h, toks := tk } ∧ (∀ z, z ≠ Str.ofString "j" → z ≠ Str.ofString "cnt_t" → m z = m₀ z) ∧ m (Str.ofString "cnt_t") = some (.int ((xs.take (i + q)).count x : Nat) tc) ∧ h.Ns L m ∧
    IsL h S (blank N vs (pat xs seen x (i + q))) ∧ IsRangeIter h I ((i + q : Nat) : Int) ((xs.length : Int) - (i + q : Nat)) 1 ∧ (∀ b o, b ≠ S → b ≠ L → b ≠ I → s.heap.get? b = some o → h.get? b = some o)) (fun _ => True) ?_ ?_ ?_
  · rintro q s' hq ⟨h, tk, m, tc, rfl, hm, hc, hns', hS', hI', hk⟩
    have hj : i + q < xs.length := by omega
    refine wpAny_pyNext_range_item hI' (by omega) fun h₁ hI₁ hs₁ => ?_
    show wpAny _ A (letOwnedTupleGo (.Name _ _) (.ref I) _) _ _ _
    refine wpAny_pure ?_
    have hns₁ : h₁.Ns L m := hns'.at' fun o e => hs₁.extBut _ _ (Ne.symm hIL) e
    refine wpAny_assign_Name (wpAny_storeName_local rfl hns₁ (fun h₂ hns₂ hs₂ => ?_) rfl)
    have hS₂ : IsL h₂ S (blank N vs (pat xs seen x (i + q))) := by obtain ⟨e, hS'⟩ := hS'; exact ⟨e, hs₂.extBut _ _ hSL (hs₁.extBut _ _ hSI hS')⟩
    have hN₂ : h₂.get? N = some bareObj := hs₂.extBut _ _ hNL (hs₁.extBut _ _ hNI (hk _ _ hNS hNL hNI hN))
    have hI₂ : IsRangeIter h₂ I ((i + (q + 1) : Nat) : Int) ((xs.length : Int) - (i + (q + 1) : Nat)) 1 := by
      have := hs₂.extBut _ _ hIL hI₁
      have e1 : ((i + q : Nat) : Int) + 1 = ((i + (q + 1) : Nat) : Int) := by omega
      have e2 : (xs.length : Int) - (i + q : Nat) - 1 = (xs.length : Int) - (i + (q + 1) : Nat) := by omega
      rw [e1, e2] at this
      exact this
    have hk₂ : ∀ b o, b ≠ S → b ≠ L → b ≠ I → s.heap.get? b = some o → h₂.get? b = some o := fun b o b1 b2 b3 e => hs₂.extBut _ _ b2 (hs₁.extBut _ _ b3 (hk b o b1 b2 b3 e))
    clear hS' hI' hk hI₁ hs₁ hs₂ hns' hns₁
    -- values of names
    have g1 : m (Str.ofString "t") = some (.ref S) := (hm _ (by decide) (by decide)).trans m1
    have g2 : m (Str.ofString "elem") = some (.str x tx) := (hm _ (by decide) (by decide)).trans m2
    have g4 : m (Str.ofString "NULL") = some (.ref N) := (hm _ (by decide) (by decide)).trans m4
    obtain ⟨y, hy⟩ : ∃ y, xs[i + q]? = some y := ⟨_, List.getElem?_eq_getElem hj⟩
    obtain ⟨ty, hv⟩ := hvs.at hy
    have hitem : (blank N vs (pat xs seen x (i + q)))[((i + q : Nat) : Int).toNat]? = some (if seen.contains y then .ref N else .str y ty) := by
      rw [Int.toNat_natCast, blank_at, hv, pat_item hy]; rfl
    have htake : (xs.take (i + (q + 1))).count x = (xs.take (i + q)).count x + (if y = x then 1 else 0) := by
      have e : xs.take (i + (q + 1)) = xs.take (i + q) ++ [y] := by rw [show i + (q + 1) = (i + q) + 1 by omega, List.take_add_one, hy]; rfl
      rw [e, List.count_append]
      by_cases hyx : y = x
      · subst hyx; simp
      · simp [hyx]
    -- the turn
    have hfin : ∀ h3 tk3 m3' tc3, (∀ z, z ≠ Str.ofString "j" → z ≠ Str.ofString "cnt_t" → m3' z = m₀ z) → m3' (Str.ofString "cnt_t") = some (.int ((xs.take (i + (q + 1))).count x : Nat) tc3) → h3.Ns L m3' →
        IsL h3 S (blank N vs (pat xs seen x (i + (q + 1)))) → (∀ b o, b ≠ S → b ≠ L → h₂.get? b = some o → h3.get? b = some o) →
        ∃ h tk m tc, ({ s with heap := h3, toks := tk3 } : Shared) = { s with heap := h, toks := tk } ∧ (∀ z, z ≠ Str.ofString "j" → z ≠ Str.ofString "cnt_t" → m z = m₀ z) ∧ m (Str.ofString "cnt_t") = some (.int ((xs.take (i + (q + 1))).count x : Nat) tc) ∧ h.Ns L m ∧
    IsL h S (blank N vs (pat xs seen x (i + (q + 1)))) ∧ IsRangeIter h I ((i + (q + 1) : Nat) : Int) ((xs.length : Int) - (i + (q + 1) : Nat)) 1 ∧ (∀ b o, b ≠ S → b ≠ L → b ≠ I → s.heap.get? b = some o → h.get? b = some o) :=
      fun h3 tk3 m3' tc3 a1 a2 a3 a4 a5 => ⟨h3, tk3, m3', tc3, rfl, a1, a2, a3, a4, a5 _ _ (Ne.symm hSI) hIL hI₂, fun b o b1 b2 b3 e => a5 _ _ b1 b2 (hk₂ b o b1 b2 b3 e)⟩
    have hmj : ∀ z, z ≠ Str.ofString "j" → z ≠ Str.ofString "cnt_t" → (fun z => if z = Str.ofString "j" then some (Value.int ((i + q : Nat) : Int) tk) else m z) z = m₀ z := fun z z1 z2 => (if_neg z1).trans (hm z z1 z2)
    dsimp only
    iterate 6 walk1
    refine item_listL (IsL.list hS₂) (by omega) (by omega) hitem ?_
    walk1
    by_cases hseen : seen.contains y = true
    · rw [if_pos hseen]
      have hyx : y ≠ x := fun e => by subst e; simp at hseen; exact hxs hseen
      refine eq_obj_str w _ x tx N hN₂ _ hA1 hA2 hA3 fun h3 hk3 => ?_
      iterate 3 walk1
      refine wpAny_execs_nil ?_
      refine hfin h3 _ _ tc hmj ?_ (hns₂.keeps hk3) ?_ (fun b o _ _ e => hk3 _ _ e)
      · rw [htake, if_neg hyx, Nat.add_zero]; exact (if_neg (by decide)).trans hc
      · rw [show i + (q + 1) = (i + q) + 1 by omega, blank_congr (fun q' _ => pat_same hy (.inl hyx) q')]
        exact hS₂.keep hk3
    · rw [if_neg hseen]
      walk1
      by_cases hyx : y = x
      · subst hyx
        rw [show (y == y) = true from beq_self_eq_true y]
        iterate 2 walk1
        refine wpAny_execs_cons ?_
        refine wpAny_AugAssign_Name ?_
        refine wpAny_loadName_local rfl rfl hns₂ (Eq.trans (if_neg (by decide)) hc) ?_
        iterate 2 walk1
        refine wpAny_storeName_local rfl hns₂ (fun h3 hns3 hs3 => ?_) rfl
        have hS3 : IsL h3 S (blank N vs (pat xs seen y (i + q))) := by obtain ⟨e, hS₂⟩ := hS₂; exact ⟨e, hs3.extBut _ _ hSL hS₂⟩
        clear hns₂
        dsimp only
        refine wpAny_execs_cons ?_
        iterate 4 walk1
        obtain ⟨e3, hS3⟩ := hS3
        refine ki_setAt hS3 (by omega) (by omega) (by rw [List.size_toArray, blank_len, hlen]; omega) ?_
        refine wpAny_execs_nil ?_
        refine wpAny_execs_nil ?_
        have other : ∀ b o, b ≠ S → h3.get? b = some o → (h3.update S (Obj.mapSeq (·.setIfInBounds ((i + q : Nat) : Int).toNat (Value.ref N)))).get? b = some o := fun b o hb e => (Heap.get?_update_other _ _ (Ne.symm hb)).trans e
        refine' hfin _ _ _ ?tc (fun z z1 z2 => (if_neg z2).trans ((if_neg z1).trans (hm z z1 z2))) ?c (hns3.at' fun o e => other _ _ (Ne.symm hSL) e) ?S (fun b o b1 b2 e => other _ _ b1 (hs3.extBut _ _ b2 e))
        case c =>
          refine (if_pos rfl).trans ?_
          rw [htake, if_pos rfl, Int.natCast_add]
          rfl
        case S =>
          have up := PySem.IsL.update hS3 (·.setIfInBounds ((i + q : Nat) : Int).toNat (Value.ref N))
          have ph := pat_hit (seen := seen) hy
          have e : ((blank N vs (pat xs seen y (i + q))).toArray.setIfInBounds ((i + q : Nat) : Int).toNat (Value.ref N)) = (blank N vs (pat xs seen y (i + (q + 1)))).toArray := by
            rw [Int.toNat_natCast, List.setIfInBounds_toArray, show i + (q + 1) = (i + q) + 1 by omega, blank_set ph.1 ph.2]
          rw [e] at up
          exact ⟨_, up⟩
      · rw [show (y == x) = false from beq_false_of_ne hyx]
        iterate 3 walk1
        refine wpAny_execs_nil ?_
        refine hfin h₂ _ _ tc hmj ?_ hns₂ ?_ (fun b o _ _ e => e)
        · rw [htake, if_neg hyx, Nat.add_zero]; exact (if_neg (by decide)).trans hc
        · rw [show i + (q + 1) = (i + q) + 1 by omega, blank_congr (fun q' _ => pat_same hy (.inl hyx) q')]
          exact hS₂
  · rintro s' ⟨h, tk, m, tc, rfl, hm, hc, hns', hS', hI', hk⟩
    refine wpAny_pyNext_range_end hA1 hI' (by omega) fun h' hk' => ?_
    rw [show i + (xs.length - i) = xs.length by omega] at hc hS'
    rw [List.take_of_length_le (Nat.le_refl _)] at hc
    refine hR h' tk m tc hm hc (hns'.at' fun o e => hk' _ _ (Ne.symm hIL) e) ?_ fun b o b1 b2 b3 e => hk' _ _ b3 (hk b o b1 b2 b3 e)
    rw [← blank_congr (fun q _ => pat_end q)]
    obtain ⟨e, hS'⟩ := hS'
    exact ⟨e, hk' _ _ hSI hS'⟩
  · obtain ⟨t3, m3⟩ := m3
    have e0 : (xs.take i).count x = 0 := List.count_eq_zero.mpr hxi
    refine ⟨s.heap, s.toks, m₀, t3, rfl, fun _ _ _ => rfl, by rw [Nat.add_zero, e0]; exact m3, hns, ?_, by rw [Nat.add_zero]; exact hI, fun _ _ _ _ _ e => e⟩
    rw [Nat.add_zero, blank_congr (fun q _ => pat_start hxi q)]
    exact hS
theorem inner_et (w : World) {A : Around} {R : Result → Shared → Prop} {L S N e it : Addr} {vs : List Value} {xs seen : List Str} {x : Str} {tx : Tok} {p1 p2 p3 p4 p5 p6 p7 p8 p9 p10 p11 p12 p13 p14 p15 : Pos}
    (hA1 : A.handled = none) (hA2 : A.depth ≤ 600) (hA3 : A.units ≤ 600) (s : Shared) (m₀ : Str → Option Value) (hvs : StrsAre vs xs) (hn : xs.length ≤ 64) (hxs : x ∉ seen)
    (hS : IsL s.heap S (blank N vs (patS xs seen))) (hN : s.heap.get? N = some bareObj) (hE : ∃ old, IsEnum s.heap e it 0 old) (hI : s.heap.IsListIter it S 0) (hns : s.heap.Ns L m₀)
    (m1 : m₀ (Str.ofString "t") = some (.ref S)) (m2 : m₀ (Str.ofString "elem") = some (.str x tx)) (m3 : ∃ t, m₀ (Str.ofString "cnt_t") = some (.int 0 t)) (m4 : m₀ (Str.ofString "NULL") = some (.ref N))
    (hSL : S ≠ L) (hIL : it ≠ L) (hEL : e ≠ L) (hNL : N ≠ L) (hSI : S ≠ it) (hSE : S ≠ e) (hNS : N ≠ S) (hNI : N ≠ it) (hNE : N ≠ e) (hEI : e ≠ it)
    (hR : ∀ h tk m tc, (∀ z, z ≠ Str.ofString "j" → z ≠ Str.ofString "other_elem" → z ≠ Str.ofString "cnt_t" → m z = m₀ z) → m (Str.ofString "cnt_t") = some (.int (xs.count x : Nat) tc) → h.Ns L m → IsL h S (blank N vs (patS xs (seen ++ [x]))) →
      (∀ b o, b ≠ S → b ≠ L → b ≠ it → b ≠ e → s.heap.get? b = some o → h.get? b = some o) → R (.ok .next) { s with heap := h, toks := tk }) :
    codeAny (model PySem.Challenge.rw_il0132_01.row.prog w) A (.forLoop (.Tuple [.Name (Str.ofString "j") p1, .Name (Str.ofString "other_elem") p2] 0 p3) (.ref e)
      [.If (.Compare (.Name (Str.ofString "other_elem") p4) [.Eq] [.Name (Str.ofString "elem") p5] p6)
        [.AugAssign (.Name (Str.ofString "cnt_t") p7) .Add (.Constant (.int 1) 0 p8) p9, .Assign [.Subscript (.Name (Str.ofString "t") p10) (.Name (Str.ofString "j") p11) p12] (.Name (Str.ofString "NULL") p13) p14] [] p15] [] (cenv L)) R s := by
  have hlen := hvs.len_eq
  have hblen : ∀ p, (blank N vs p).toArray.size = xs.length := fun p => by rw [List.size_toArray, blank_len, hlen]
  refine for_go xs.length (fun q s' => ∃ h tk m tc, s' = { s with heap := h, toks := tk } ∧ (∀ z, z ≠ Str.ofString "j" → z ≠ Str.ofString "other_elem" → z ≠ Str.ofString "cnt_t" → m z = m₀ z) ∧ m (Str.ofString "cnt_t") = some (.int ((xs.take q).count x : Nat) tc) ∧ h.Ns L m ∧
    IsL h S (blank N vs (pat xs seen x q)) ∧ (∃ old, IsEnum h e it q old) ∧ h.IsListIter it S q ∧ (∀ b o, b ≠ S → b ≠ L → b ≠ it → b ≠ e → s.heap.get? b = some o → h.get? b = some o)) (fun _ => True) ?_ ?_ ?_
  · rintro q s' hj ⟨h, tk, m, tc, rfl, hm, hc, hns', hS', hE', hI', hk⟩
    have W := Src.enumerate (prog := PySem.Challenge.rw_il0132_01.row.prog) (w := w) (A := A) hA1 e it S hEI hSE hSI (blank N vs (pat xs seen x q)).toArray (Str.ofString "j") (Str.ofString "other_elem") p1 p2 p3 0
    refine W.step q (cenv L) m _ _ _ (by rw [hblen]; exact hj) ⟨hE', hI', hS'.list⟩ hns' (by intro hz; simp at hz; rcases hz with hz | hz | hz; exact hEL hz.symm; exact hIL hz.symm; exact hSL hz.symm) (fun z hz => by simp only [List.mem_cons, List.not_mem_nil, or_false] at hz; rcases hz with rfl | rfl <;> rfl) rfl fun h₂ tk₂ m₂ hV hns₂ hst₂ hk' => ?_
    obtain ⟨u, v, ⟨tj, v', hv', huv⟩, rfl⟩ := hV
    cases huv
    obtain ⟨hE₂, hI₂, _⟩ := hst₂
    have hS₂ : IsL h₂ S (blank N vs (pat xs seen x q)) := by obtain ⟨e', hS'⟩ := hS'; exact ⟨e', hk' _ _ (by simp [hSE, hSI]) hSL hS'⟩
    have hN₂ : h₂.get? N = some bareObj := hk' _ _ (by simp [hNE, hNI]) hNL (hk _ _ hNS hNL hNI hNE hN)
    have hk₂ : ∀ b o, b ≠ S → b ≠ L → b ≠ it → b ≠ e → s.heap.get? b = some o → h₂.get? b = some o := fun b o b1 b2 b3 b4 q' => hk' _ _ (by simp [b3, b4]) b2 (hk b o b1 b2 b3 b4 q')
    clear hS' hE' hI' hk hns' hk'
    have g1 : m (Str.ofString "t") = some (.ref S) := (hm _ (by decide) (by decide) (by decide)).trans m1
    have g2 : m (Str.ofString "elem") = some (.str x tx) := (hm _ (by decide) (by decide) (by decide)).trans m2
    have g4 : m (Str.ofString "NULL") = some (.ref N) := (hm _ (by decide) (by decide) (by decide)).trans m4
    obtain ⟨y, hy⟩ : ∃ y, xs[q]? = some y := ⟨_, List.getElem?_eq_getElem hj⟩
    obtain ⟨ty, hv⟩ := hvs.at hy
    have hvv : v = (if seen.contains y then .ref N else .str y ty) := by
      rw [List.getElem?_toArray, blank_at, hv, pat_item hy] at hv'
      exact (Option.some.inj hv').symm
    have htake : (xs.take (q + 1)).count x = (xs.take q).count x + (if y = x then 1 else 0) := by
      have e : xs.take (q + 1) = xs.take q ++ [y] := by rw [List.take_add_one, hy]; rfl
      rw [e, List.count_append]
      by_cases hyx : y = x
      · subst hyx; simp
      · simp [hyx]
    have hfin : ∀ h3 tk3 m3' tc3, (∀ z, z ≠ Str.ofString "j" → z ≠ Str.ofString "other_elem" → z ≠ Str.ofString "cnt_t" → m3' z = m₀ z) → m3' (Str.ofString "cnt_t") = some (.int ((xs.take (q + 1)).count x : Nat) tc3) → h3.Ns L m3' →
        IsL h3 S (blank N vs (pat xs seen x (q + 1))) → (∀ b o, b ≠ S → b ≠ L → h₂.get? b = some o → h3.get? b = some o) →
        ∃ h tk m tc, ({ s with heap := h3, toks := tk3 } : Shared) = { s with heap := h, toks := tk } ∧ (∀ z, z ≠ Str.ofString "j" → z ≠ Str.ofString "other_elem" → z ≠ Str.ofString "cnt_t" → m z = m₀ z) ∧ m (Str.ofString "cnt_t") = some (.int ((xs.take (q + 1)).count x : Nat) tc) ∧ h.Ns L m ∧
    IsL h S (blank N vs (pat xs seen x (q + 1))) ∧ (∃ old, IsEnum h e it (q + 1) old) ∧ h.IsListIter it S (q + 1) ∧ (∀ b o, b ≠ S → b ≠ L → b ≠ it → b ≠ e → s.heap.get? b = some o → h.get? b = some o) :=
      fun h3 tk3 m3' tc3 a1 a2 a3 a4 a5 => ⟨h3, tk3, m3', tc3, rfl, a1, a2, a3, a4, (let ⟨old, hE⟩ := hE₂; ⟨old, a5 _ _ (Ne.symm hSE) hEL hE⟩), hI₂.at fun o e' => a5 _ _ (Ne.symm hSI) hIL e', fun b o b1 b2 b3 b4 e' => a5 _ _ b1 b2 (hk₂ b o b1 b2 b3 b4 e')⟩
    have hmj : ∀ z, z ≠ Str.ofString "j" → z ≠ Str.ofString "other_elem" → z ≠ Str.ofString "cnt_t" → (fun z => if z = Str.ofString "other_elem" then some v else if z = Str.ofString "j" then some (Value.int (q : Int) tj) else m z) z = m₀ z := fun z z1 z2 z3 => (if_neg z2).trans ((if_neg z1).trans (hm z z1 z2 z3))
    dsimp only
    iterate 5 walk1
    by_cases hseen : seen.contains y = true
    · rw [if_pos hseen] at hvv
      rw [hvv]
      have hyx : y ≠ x := fun e => by subst e; simp at hseen; exact hxs hseen
      refine eq_obj_str w _ x tx N hN₂ _ hA1 hA2 hA3 fun h3 hk3 => ?_
      iterate 3 walk1
      refine wpAny_execs_nil ?_
      refine hfin h3 _ _ tc (hvv ▸ hmj) ?_ (hvv ▸ hns₂.keeps hk3) ?_ (fun b o _ _ e => hk3 _ _ e)
      · rw [htake, if_neg hyx, Nat.add_zero]; exact (if_neg (by decide)).trans ((if_neg (by decide)).trans hc)
      · rw [blank_congr (fun q' _ => pat_same hy (.inl hyx) q')]
        exact hS₂.keep hk3
    · rw [if_neg hseen] at hvv
      subst hvv
      walk1
      by_cases hyx : y = x
      · subst hyx
        rw [show (y == y) = true from beq_self_eq_true y]
        iterate 2 walk1
        refine wpAny_execs_cons ?_
        refine wpAny_AugAssign_Name ?_
        refine wpAny_loadName_local rfl rfl hns₂ (Eq.trans (if_neg (by decide)) (Eq.trans (if_neg (by decide)) hc)) ?_
        iterate 2 walk1
        refine wpAny_storeName_local rfl hns₂ (fun h3 hns3 hs3 => ?_) rfl
        have hS3 : IsL h3 S (blank N vs (pat xs seen y q)) := by obtain ⟨e', hS₂⟩ := hS₂; exact ⟨e', hs3.extBut _ _ hSL hS₂⟩
        clear hns₂
        dsimp only
        refine wpAny_execs_cons ?_
        iterate 4 walk1
        obtain ⟨e3, hS3⟩ := hS3
        refine ki_setAt hS3 (by omega) (by omega) (by rw [List.size_toArray, blank_len, hlen]; omega) ?_
        refine wpAny_execs_nil ?_
        refine wpAny_execs_nil ?_
        have other : ∀ b o, b ≠ S → h3.get? b = some o → (h3.update S (Obj.mapSeq (·.setIfInBounds (q : Int).toNat (Value.ref N)))).get? b = some o := fun b o hb e => (Heap.get?_update_other _ _ (Ne.symm hb)).trans e
        refine' hfin _ _ _ ?tc (fun z z1 z2 z3 => (if_neg z3).trans ((if_neg z2).trans ((if_neg z1).trans (hm z z1 z2 z3)))) ?c (hns3.at' fun o e => other _ _ (Ne.symm hSL) e) ?S (fun b o b1 b2 e => other _ _ b1 (hs3.extBut _ _ b2 e))
        case c =>
          refine (if_pos rfl).trans ?_
          rw [htake, if_pos rfl, Int.natCast_add]
          rfl
        case S =>
          have up := PySem.IsL.update hS3 (·.setIfInBounds (q : Int).toNat (Value.ref N))
          have ph := pat_hit (seen := seen) hy
          have e : ((blank N vs (pat xs seen y q)).toArray.setIfInBounds (q : Int).toNat (Value.ref N)) = (blank N vs (pat xs seen y (q + 1))).toArray := by
            rw [Int.toNat_natCast, List.setIfInBounds_toArray, blank_set ph.1 ph.2]
          rw [e] at up
          exact ⟨_, up⟩
      · rw [show (y == x) = false from beq_false_of_ne hyx]
        iterate 3 walk1
        refine wpAny_execs_nil ?_
        refine hfin h₂ _ _ tc hmj ?_ hns₂ ?_ (fun b o _ _ e => e)
        · rw [htake, if_neg hyx, Nat.add_zero]; exact (if_neg (by decide)).trans ((if_neg (by decide)).trans hc)
        · rw [blank_congr (fun q' _ => pat_same hy (.inl hyx) q')]
          exact hS₂
  · rintro s' ⟨h, tk, m, tc, rfl, hm, hc, hns', hS', hE', hI', hk⟩
    have W := Src.enumerate (prog := PySem.Challenge.rw_il0132_01.row.prog) (w := w) (A := A) hA1 e it S hEI hSE hSI (blank N vs (pat xs seen x xs.length)).toArray (Str.ofString "j") (Str.ofString "other_elem") p1 p2 p3 0
    rw [hblen] at W
    refine W.done (cenv L) _ _ _ ⟨hE', hI', hS'.list⟩ fun h' tk' hk' => ?_
    rw [List.take_of_length_le (Nat.le_refl _)] at hc
    refine hR h' tk' m tc hm hc (hns'.at' fun o e' => hk' _ _ (by simp [Ne.symm hEL, Ne.symm hIL]) e') ?_ fun b o b1 b2 b3 b4 e' => hk' _ _ (by simp [b3, b4]) (hk b o b1 b2 b3 b4 e')
    rw [← blank_congr (fun q _ => pat_end q)]
    obtain ⟨e', hS'⟩ := hS'
    exact ⟨e', hk' _ _ (by simp [hSE, hSI]) hS'⟩
  · obtain ⟨t3, m3⟩ := m3
    refine ⟨s.heap, s.toks, m₀, t3, rfl, fun _ _ _ _ => rfl, by simpa using m3, hns, ?_, hE, hI, fun _ _ _ _ _ _ e => e⟩
    rw [blank_congr (fun q _ => pat_start (i := 0) (by simp) q)]
    exact hS

end

section
inductive Mms (h : Heap) : List Value → List (Nat × Nat × Str) → Prop
  | nil : Mms h [] []
  | cons {a : Addr} {d e sl} {t1 t2 t3 : Tok} {c1 c2 : Nat} {x : Str} {vs es} : h.get? a = some ⟨.ref 149, d, .seq #[.int (c1 : Int) t1, .int (c2 : Int) t2, .str x t3] e, sl⟩ → Mms h vs es → Mms h (.ref a :: vs) ((c1, c2, x) :: es)
def IsMM (o : Obj) : Prop := o.cls = .ref 149 ∧ ∃ xs n, o.data = .seq xs n
theorem Mms.keep {h h' : Heap} (k : ∀ b o, IsMM o → h.get? b = some o → h'.get? b = some o) : ∀ {vs es}, Mms h vs es → Mms h' vs es
  | _, _, .nil => .nil
  | _, _, .cons e r => .cons (k _ _ ⟨rfl, _, _, rfl⟩ e) (Mms.keep k r)
theorem Mms.snoc {h : Heap} {a : Addr} {d e sl} {t1 t2 t3 : Tok} {c1 c2 : Nat} {x : Str} (ha : h.get? a = some ⟨.ref 149, d, .seq #[.int (c1 : Int) t1, .int (c2 : Int) t2, .str x t3] e, sl⟩) : ∀ {vs es}, Mms h vs es → Mms h (vs ++ [.ref a]) (es ++ [(c1, c2, x)])
  | _, _, .nil => .cons ha .nil
  | _, _, .cons q r => .cons q (Mms.snoc ha r)
theorem Mms.len {h : Heap} : ∀ {vs es}, Mms h vs es → vs.length = es.length
  | _, _, .nil => rfl
  | _, _, .cons _ r => congrArg (· + 1) (Mms.len r)

/-- where the two lists, NULL and the result stand -/
structure CSt (H₀ : Heap) (S T R N : Addr) (vsS vsT : List Value) (pS pT : Nat → Bool) (rs : List Value) (es : List (Nat × Nat × Str)) (m : Str → Option Value) (h : Heap) : Prop where
  F : Fr H₀ H₀.objs.size h m
  S : IsL h S (blank N vsS pS)
  T : IsL h T (blank N vsT pT)
  R : IsL h R rs
  N : h.get? N = some bareObj
  M : Mms h rs es

/-- names that never change -/
structure CNm (S T R N : Addr) (k1 k2 : Nat) (m : Str → Option Value) : Prop where
  s : m (Str.ofString "s") = some (.ref S)
  t : m (Str.ofString "t") = some (.ref T)
  r : m (Str.ofString "result") = some (.ref R)
  n : m (Str.ofString "NULL") = some (.ref N)
  n1 : ∃ t, m (Str.ofString "m") = some (.int (k1 : Int) t)
  n2 : ∃ t, m (Str.ofString "n") = some (.int (k2 : Int) t)

theorem CNm.of {H₀ h : Heap} {L S T R N : Addr} {k1 k2 : Nat} {m : Str → Option Value} (_F : Fr H₀ L h m) (a : m (Str.ofString "s") = some (.ref S)) (b : m (Str.ofString "t") = some (.ref T)) (c : m (Str.ofString "result") = some (.ref R))
    (d : m (Str.ofString "NULL") = some (.ref N)) (e : ∃ t, m (Str.ofString "m") = some (.int (k1 : Int) t)) (f : ∃ t, m (Str.ofString "n") = some (.int (k2 : Int) t)) : CNm S T R N k1 k2 m := ⟨a, b, c, d, e, f⟩
theorem CNm.store {S T R N : Addr} {n1 n2 : Nat} {m : Str → Option Value} {y : Str} {v : Value} (c : CNm S T R N n1 n2 m)
    (hy : [Str.ofString "s", Str.ofString "t", Str.ofString "result", Str.ofString "NULL", Str.ofString "m", Str.ofString "n"].contains y = false) : CNm S T R N n1 n2 (fun z => if z = y then some v else m z) := by
  have ne : ∀ z ∈ [Str.ofString "s", Str.ofString "t", Str.ofString "result", Str.ofString "NULL", Str.ofString "m", Str.ofString "n"], z ≠ y := fun z hz e => by
    subst e
    rw [List.contains_iff_mem.mpr hz] at hy; cases hy
  refine ⟨(if_neg (ne _ (by simp))).trans c.s, (if_neg (ne _ (by simp))).trans c.t, (if_neg (ne _ (by simp))).trans c.r, (if_neg (ne _ (by simp))).trans c.n, ?_, ?_⟩
  · obtain ⟨t, e⟩ := c.n1; exact ⟨t, (if_neg (ne _ (by simp))).trans e⟩
  · obtain ⟨t, e⟩ := c.n2; exact ⟨t, (if_neg (ne _ (by simp))).trans e⟩
theorem CNm.agree {S T R N : Addr} {n1 n2 : Nat} {m m' : Str → Option Value} (c : CNm S T R N n1 n2 m)
    (h : ∀ z ∈ [Str.ofString "s", Str.ofString "t", Str.ofString "result", Str.ofString "NULL", Str.ofString "m", Str.ofString "n"], m' z = m z) : CNm S T R N n1 n2 m' :=
  ⟨(h _ (by simp)).trans c.s, (h _ (by simp)).trans c.t, (h _ (by simp)).trans c.r, (h _ (by simp)).trans c.n, (let ⟨t, e⟩ := c.n1; ⟨t, (h _ (by simp)).trans e⟩), (let ⟨t, e⟩ := c.n2; ⟨t, (h _ (by simp)).trans e⟩)⟩

structure Apart4 (H₀ : Heap) (S T R N : Addr) : Prop where
  SL : S ≠ H₀.objs.size
  TL : T ≠ H₀.objs.size
  RL : R ≠ H₀.objs.size
  NL : N ≠ H₀.objs.size
  ST : S ≠ T
  SR : S ≠ R
  SN : S ≠ N
  TR : T ≠ R
  TN : T ≠ N
  RN : R ≠ N
  S0 : H₀.get? S = none
  T0 : H₀.get? T = none
  R0 : H₀.get? R = none

section
variable {H₀ : Heap} {S T R N : Addr} {vsS vsT : List Value} {pS pT : Nat → Bool} {rs : List Value} {es : List (Nat × Nat × Str)} {m m' : Str → Option Value} {h h' : Heap}
theorem Apart4.mm (D : Apart4 H₀ S T R N) (c : CSt H₀ S T R N vsS vsT pS pT rs es m h) {b : Addr} {o : Obj} (ho : IsMM o) (e : h.get? b = some o) : b ≠ H₀.objs.size ∧ b ≠ S ∧ b ≠ T ∧ b ≠ R := by
  refine ⟨?_, ?_, ?_, ?_⟩
  · rintro rfl
    obtain ⟨oL, _, _, hoL, hd, _⟩ := c.F.ns
    rw [hoL] at e; cases e
    obtain ⟨_, _, _, q⟩ := ho
    rw [hd] at q; cases q
  · rintro rfl
    obtain ⟨_, q⟩ := c.S
    rw [q] at e; cases e; cases ho.1
  · rintro rfl
    obtain ⟨_, q⟩ := c.T
    rw [q] at e; cases e; cases ho.1
  · rintro rfl
    obtain ⟨_, q⟩ := c.R
    rw [q] at e; cases e; cases ho.1

/-- all stands but the frame -/
theorem CSt.frame (D : Apart4 H₀ S T R N) (c : CSt H₀ S T R N vsS vsT pS pT rs es m h) (hn : h'.Ns H₀.objs.size m') (k : ∀ b o, b ≠ H₀.objs.size → h.get? b = some o → h'.get? b = some o) : CSt H₀ S T R N vsS vsT pS pT rs es m' h' where
  F := ⟨hn, fun b o e => k _ _ (Nat.ne_of_lt (Heap.lt_size e)) (c.F.keep _ _ e), c.F.above⟩
  S := let ⟨e, q⟩ := c.S; ⟨e, k _ _ D.SL q⟩
  T := let ⟨e, q⟩ := c.T; ⟨e, k _ _ D.TL q⟩
  R := let ⟨e, q⟩ := c.R; ⟨e, k _ _ D.RL q⟩
  N := k _ _ D.NL c.N
  M := c.M.keep fun b o ho e => k _ _ (D.mm c ho e).1 e
end

def Stays (H₀ : Heap) (b : Addr) (o : Obj) : Prop := (∃ xs n, o.data = .seq xs n) ∨ o = bareObj ∨ H₀.get? b = some o
section
variable {H₀ : Heap} {S T R N : Addr} {vsS vsT : List Value} {pS pT pS' pT' : Nat → Bool} {rs : List Value} {es : List (Nat × Nat × Str)} {m m' : Str → Option Value} {h h' : Heap}
theorem CSt.go (D : Apart4 H₀ S T R N) (c : CSt H₀ S T R N vsS vsT pS pT rs es m h) (hn : h'.Ns H₀.objs.size m') (hS : IsL h' S (blank N vsS pS')) (hT : IsL h' T (blank N vsT pT')) (hR : IsL h' R rs)
    (k : ∀ b o, b ≠ H₀.objs.size → b ≠ S → b ≠ T → b ≠ R → Stays H₀ b o → h.get? b = some o → h'.get? b = some o) : CSt H₀ S T R N vsS vsT pS' pT' rs es m' h' where
  F := ⟨hn, fun b o e => k _ _ (Nat.ne_of_lt (Heap.lt_size e)) (fun q => by rw [q, D.S0] at e; cases e) (fun q => by rw [q, D.T0] at e; cases e) (fun q => by rw [q, D.R0] at e; cases e) (.inr (.inr e)) (c.F.keep _ _ e), c.F.above⟩
  S := hS
  T := hT
  R := hR
  N := k _ _ D.NL (Ne.symm D.SN) (Ne.symm D.TN) (Ne.symm D.RN) (.inr (.inl rfl)) c.N
  M := c.M.keep fun b o ho e => by
    have q := D.mm c ho e
    exact k _ _ q.1 q.2.1 q.2.2.1 q.2.2.2 (.inl ho.2) e
theorem CSt.move (D : Apart4 H₀ S T R N) (c : CSt H₀ S T R N vsS vsT pS pT rs es m h) (hn : h'.Ns H₀.objs.size m')
    (k : ∀ b o, b ≠ H₀.objs.size → Stays H₀ b o → h.get? b = some o → h'.get? b = some o) : CSt H₀ S T R N vsS vsT pS pT rs es m' h' :=
  c.go D hn (let ⟨e, q⟩ := c.S; ⟨e, k _ _ D.SL (.inl ⟨_, _, rfl⟩) q⟩) (let ⟨e, q⟩ := c.T; ⟨e, k _ _ D.TL (.inl ⟨_, _, rfl⟩) q⟩) (let ⟨e, q⟩ := c.R; ⟨e, k _ _ D.RL (.inl ⟨_, _, rfl⟩) q⟩) fun b o b1 _ _ _ st e => k b o b1 st e
end
theorem stays_ne_enum {H₀ h : Heap} {e it b : Addr} {o : Obj} {i : Int} {old : Value} (he : IsEnum h e it i old) (h0 : H₀.get? e = none) (st : Stays H₀ b o) (q : h.get? b = some o) : b ≠ e := by
  rintro rfl
  rw [show h.get? b = some _ from he] at q
  cases q
  rcases st with ⟨_, _, z⟩ | z | z
  · cases z
  · have z2 := congrArg Obj.data z
    cases z2
  · rw [h0] at z; cases z
theorem stays_ne_iter {H₀ h : Heap} {it l b : Addr} {o : Obj} {i : Nat} (hi : h.IsListIter it l i) (h0 : H₀.get? it = none) (st : Stays H₀ b o) (q : h.get? b = some o) : b ≠ it := by
  rintro rfl
  obtain ⟨o', ho', _, hd⟩ := hi
  rw [ho'] at q
  cases q
  rcases st with ⟨_, _, z⟩ | z | z
  · rw [hd] at z; cases z
  · rw [z] at hd; cases hd
  · rw [h0] at z; cases z
theorem is_obj {M : Model} {A : Around} {E : Value → Shared → Prop} {s : Shared} {n : Addr} {Q : Value → Shared → Prop} (h : Q (.bool true) s) : wpAny M A (compareOp .Is (.ref n) (.ref n)) Q E s :=
  wpAny_of_eq (a := .bool true) (by simp [compareOp, isSame]) h
theorem is_str {M : Model} {A : Around} {E : Value → Shared → Prop} {s : Shared} {n : Addr} {x : Str} {t : Tok} {Q : Value → Shared → Prop} (h : Q (.bool false) s) : wpAny M A (compareOp .Is (.str x t) (.ref n)) Q E s :=
  wpAny_of_eq (a := .bool false) (by rfl) h
theorem patS_seen {zs seen : List Str} {y : Str} (h : seen.contains y = true) : patS zs (seen ++ [y]) = patS zs seen := by
  funext q
  unfold patS
  cases zs[q]? with
  | none => rfl
  | some z =>
    have hm : y ∈ seen := by simpa using h
    simp only [List.contains_eq_mem, List.mem_append, List.mem_singleton, decide_eq_decide]
    constructor
    · rintro (q | rfl)
      · exact q
      · exact hm
    · exact .inl
theorem CNm.storeF {H₀ h : Heap} {L S T R N : Addr} {n1 n2 : Nat} {m : Str → Option Value} {y : Str} {v : Value} (_F : Fr H₀ L h (fun z => if z = y then some v else m z)) (c : CNm S T R N n1 n2 m)
    (hy : [Str.ofString "s", Str.ofString "t", Str.ofString "result", Str.ofString "NULL", Str.ofString "m", Str.ofString "n"].contains y = false) : CNm S T R N n1 n2 (fun z => if z = y then some v else m z) := c.store hy

end

section
local macro_rules | `(tactic| walk_at "PAD") => `(tactic| skip)
local macro_rules | `(tactic| walk_at "PAD") => `(tactic| skip)
local macro_rules | `(tactic| walk_at "PAD") => `(tactic| skip)
local macro_rules | `(tactic| walk_at "PAD") => `(tactic| skip)
local macro_rules | `(tactic| walk_at "eval Name") => `(tactic| ((with_reducible show wpAny _ _ (eval (Expr.Name _ _) (envOf _ _ _ _ _)) _ _ _); refine' wpAny_Name (wpAny_loadName_local rfl rfl ?hn ?hv ?_); (case hn => with_reducible assumption); (case hv => walk_at "MLOOK")))
theorem emits_len {α : Type} (l : List Str) (c : Str → Bool) (f : Str → α) : ∀ i, (emits l c f i).length ≤ i
  | 0 => Nat.le_refl _
  | i + 1 => by
    have := emits_len l c f i
    rw [emits, List.length_append]
    split
    · split <;> simp <;> omega
    · simp; omega
theorem count_diff (w : World) {loose : List Str} {mg mb : Str → Option Value} (s : Shared) (l1 l2 : Addr) (vs1 vs2 : List Value) (xs ys : List Str)
  (Q : Value → Shared → Prop)
  (X : (Mine.hd.heap_39 w.params).In s.heap) (T : TopRead Mine.hd.view_39 loose mg mb s.heap)
  (h1 : IsL s.heap l1 vs1) (h2 : IsL s.heap l2 vs2) (hx : StrsAre vs1 xs) (hy : StrsAre vs2 ys) (hlx : xs.length ≤ 14) (hly : ys.length ≤ 14)
  (hret : ∀ r rs h' tk', (∀ b o, s.heap.get? b = some o → h'.get? b = some o) → s.heap.get? r = none → IsL h' r rs → Mms h' rs (emits (xs ++ ys) (fun x => xs.count x != ys.count x) (fun x => (xs.count x, ys.count x, x)) (xs.length + ys.length)) → Q (.ref r) { s with heap := h', toks := tk' }) :
    wpAny (model PySem.Challenge.rw_il0132_01.row.prog w) (AN 450) (call (.ref 159) [.ref l1, .ref l2]) Q NoE s := by
  have h1l := h1.list
  have h2l := h2.list
  revert X; k_fill; intro X
  refine wpAny_call ?_
  walk_at "MYENTERP"
  iterate 69 walk1
  refine wpAny_mono (wp_AN (n := 600) rfl (Nat.le_of_ble_eq_true rfl) (Nat.le_of_ble_eq_true rfl) (obj_new w _)) ?_ (fun _ _ z => False.elim z)
  rintro v s' ⟨N0, h3, tk3, rfl, rfl, hk, hf, hn⟩
  rename_i F N
  have F1 := F.keeps hk
  have hN0 : s.heap.get? N0 = none := by
    cases q : s.heap.get? N0 with
    | none => rfl
    | some o => 
      have := F.keep _ _ q
      dsimp only at hf
      rw [hf] at this; cases this
  have hNL : N0 ≠ s.heap.objs.size := fun q => by
    obtain ⟨oL, _, _, hoL, _⟩ := F.ns
    dsimp only at hf
    rw [← q, hf] at hoL; cases hoL
  have N1 := N.grown hk
  have N2 : News s.heap s.heap.objs.size h3 ((N0, bareObj) :: _) := fun p hp => by
    rcases List.mem_cons.mp hp with rfl | hp
    · exact ⟨hn, hNL, hN0⟩
    · exact N1 p hp
  clear F N N1
  iterate 9 walk1
  rename_i S c1 h12 l4 T2 c2 h11 lST D3 h10 l2' h9 h8 h7 tk1 D4 h6 l1' h5 h4' h3' tk0 h2' R h1' lR h4 F N
  refine wpAny_For ?_
  iterate 6 walk1
  have nR := N _ (.head _)
  have nT := N _ (.tail _ (.tail _ (.tail _ (.tail _ (.head _)))))
  have nS := N _ (.tail _ (.tail _ (.tail _ (.tail _ (.tail _ (.head _))))))
  have nN := N _ (.tail _ (.head _))
  have hSN : S ≠ N0 := fun q => by
    have e := nS.1
    dsimp only at e
    rw [q, nN.1] at e
    have e2 : Value.type "object" = Value.type "list" := congrArg Obj.cls (Option.some.inj e)
    exact absurd e2 (by decide)
  have hTN : T2 ≠ N0 := fun q => by
    have e := nT.1
    dsimp only at e
    rw [q, nN.1] at e
    have e2 : Value.type "object" = Value.type "list" := congrArg Obj.cls (Option.some.inj e)
    exact absurd e2 (by decide)
  have D : Apart4 s.heap S T2 R N0 := ⟨nS.2.1, nT.2.1, nR.2.1, hNL, Nat.ne_of_lt lST, Nat.ne_of_lt lR.2.2.2.2, hSN, Nat.ne_of_lt lR.2.2.2.1, hTN, Nat.ne_of_gt lR.1, nS.2.2, nT.2.2, nR.2.2⟩
  have C0 : CSt s.heap S T2 R N0 vs1 vs2 (patS xs []) (patS ys []) [] [] _ h4 := ⟨F, ⟨_, by rw [blank_none (fun q => by unfold patS; cases xs[q]? <;> rfl)]; exact nS.1⟩, ⟨_, by rw [blank_none (fun q => by unfold patS; cases ys[q]? <;> rfl)]; exact nT.1⟩, ⟨_, nR.1⟩, nN.1, .nil⟩
  have M0 := CNm.of (S := S) (T := T2) (R := R) (N := N0) (k1 := xs.length) (k2 := ys.length) F (by walk_at "MLOOK") (by walk_at "MLOOK") (by walk_at "MLOOK") (by walk_at "MLOOK") ⟨_, by walk_at "MLOOK"⟩ ⟨_, by walk_at "MLOOK"⟩
  have hFa := F.above
  generalize (fun y => _ : Str → Option Value) = mm at C0 M0
  clear F N nR nT nS nN hFa hSN hTN hk hf hn lR lST l2' l1' hN0 hNL
  refine call_enumerate_list C0.S.list fun h5 he hi hz5 hk5 => ?_
  dsimp only at he hi hz5 hk5 ⊢
  have hS4 : S < h4.objs.size := C0.S.size
  have hL4 : s.heap.objs.size < h4.objs.size := C0.F.ns.lt
  have new5 : ∀ b, b < h4.objs.size → b ≠ h4.objs.size ∧ b ≠ h4.objs.size + 1 := fun b hb => ⟨Nat.ne_of_lt hb, Nat.ne_of_lt (Nat.lt_succ_of_lt hb)⟩
  have W0 := Src.enumerate (prog := PySem.Challenge.rw_il0132_01.row.prog) (w := w) (A := (AN 450).deeper (cenv s.heap.objs.size)) rfl (h4.objs.size + 1) h4.objs.size S (Nat.succ_ne_self _) (new5 _ hS4).2 (new5 _ hS4).1 (blank N0 vs1 (patS xs [])).toArray (Str.ofString "i") (Str.ofString "elem") default default default 0
  refine W0.self 0 _ _ _ ⟨⟨_, he⟩, hi, C0.S.list.at fun o e => hk5 _ _ e⟩ ?_
  have hT4 : T2 < h4.objs.size := C0.T.size
  have hR4 : R < h4.objs.size := C0.R.size
  have hN4 : N0 < h4.objs.size := Heap.lt_size C0.N
  have C5 := C0.frame D (C0.F.ns.keeps hk5) (fun b o _ e => hk5 b o e)
  refine for_go xs.length (fun k s' => ∃ h tk m rs, s' = { s with heap := h, toks := tk } ∧ CSt s.heap S T2 R N0 vs1 vs2 (patS xs ((xs ++ ys).take k)) (patS ys ((xs ++ ys).take k)) rs (emits (xs ++ ys) (fun x => xs.count x != ys.count x) (fun x => (xs.count x, ys.count x, x)) k) m h ∧
    CNm S T2 R N0 xs.length ys.length m ∧ (∃ old, IsEnum h (h4.objs.size + 1) h4.objs.size k old) ∧ h.IsListIter h4.objs.size S k) (fun _ => True) ?_ ?_ ?_
  · rintro k s' hkx ⟨h, tk, m, rs, rfl, C, M, hE, hI⟩
    have e0 : s.heap.get? (h4.objs.size + 1) = none := none_of_le (Nat.le_of_lt (Nat.lt_succ_of_lt hL4))
    have i0 : s.heap.get? h4.objs.size = none := none_of_le (Nat.le_of_lt hL4)
    have W := Src.enumerate (prog := PySem.Challenge.rw_il0132_01.row.prog) (w := w) (A := (AN 450).deeper (cenv s.heap.objs.size)) rfl (h4.objs.size + 1) h4.objs.size S (Nat.succ_ne_self _) (new5 _ hS4).2 (new5 _ hS4).1 (blank N0 vs1 (patS xs ((xs ++ ys).take k))).toArray (Str.ofString "i") (Str.ofString "elem") { line := 118, col := 8, endLine := 118, endCol := 9 } { line := 118, col := 11, endLine := 118, endCol := 15 } { line := 118, col := 8, endLine := 118, endCol := 15 } 0
    refine W.step k (cenv s.heap.objs.size) m _ _ _ (by rw [List.size_toArray, blank_len, hx.len_eq]; exact hkx) ⟨hE, hI, C.S.list⟩ C.F.ns (by intro hz; simp at hz; rcases hz with hz | hz | hz; exact (new5 _ hL4).2 hz; exact (new5 _ hL4).1 hz; exact D.SL hz.symm) (fun z hz => by simp only [List.mem_cons, List.not_mem_nil, or_false] at hz; rcases hz with rfl | rfl <;> rfl) rfl fun h₂ tk₂ m₂ hV hns₂ hst₂ hk' => ?_
    obtain ⟨u, v, ⟨tj, v', hv', huv⟩, rfl⟩ := hV
    cases huv
    obtain ⟨⟨old, hE⟩, hI⟩ := And.intro hE hI
    have C2 := C.move D hns₂ fun b o b1 st q => hk' _ _ (by simp [stays_ne_enum hE e0 st q, stays_ne_iter hI i0 st q]) b1 q
    have M2 := (M.store (y := Str.ofString "i") (v := .int (k : Int) tj) (by decide)).store (y := Str.ofString "elem") (v := v) (by decide)
    obtain ⟨hE2, hI2, _⟩ := hst₂
    have F2 := C2.F
    obtain ⟨y, hy⟩ : ∃ y, xs[k]? = some y := ⟨_, List.getElem?_eq_getElem hkx⟩
    have hyl : (xs ++ ys)[k]? = some y := by rw [List.getElem?_append_left hkx]; exact hy
    obtain ⟨ty, hv⟩ := hx.at hy
    have hvv : v = (if ((xs ++ ys).take k).contains y then .ref N0 else .str y ty) := by
      rw [List.getElem?_toArray, blank_at, hv] at hv'
      have e : patS xs ((xs ++ ys).take k) k = ((xs ++ ys).take k).contains y := by unfold patS; rw [hy]
      rw [e] at hv'
      exact (Option.some.inj hv').symm
    have htk : (xs ++ ys).take (k + 1) = (xs ++ ys).take k ++ [y] := by rw [List.take_add_one, hyl]; rfl
    have gN := M2.n
    have ge : (fun z => if z = Str.ofString "elem" then some v else if z = Str.ofString "i" then some (Value.int (k : Int) tj) else m z) (Str.ofString "elem") = some v := if_pos rfl
    obtain ⟨tm, gm⟩ := M.n1
    clear W hv' hk' C M W0 C5 M0 C0 hk5
    dsimp only
    iterate 5 walk1
    by_cases hseen : ((xs ++ ys).take k).contains y = true
    · rw [if_pos hseen] at hvv
      subst hvv
      refine is_obj ?_
      iterate 4 walk1
      have ep : ∀ zs, patS zs ((xs ++ ys).take (k + 1)) = patS zs ((xs ++ ys).take k) := fun zs => by rw [htk, patS_seen hseen]
      have ee : emits (xs ++ ys) (fun x => xs.count x != ys.count x) (fun x => (xs.count x, ys.count x, x)) (k + 1) = emits (xs ++ ys) (fun x => xs.count x != ys.count x) (fun x => (xs.count x, ys.count x, x)) k := by
        simp only [emits, hyl]
        rw [if_neg (fun q => q.1 (by simpa using hseen)), List.append_nil]
      refine ⟨h₂, _, _, rs, rfl, ?_, M2, hE2, hI2⟩
      rw [ep, ep, ee]
      exact C2
    · rw [if_neg hseen] at hvv
      subst hvv
      refine is_str ?_
      iterate 7 walk1
      refine wpAny_storeName_local rfl hns₂ (fun h6 hns6 hs6 => ?_) rfl
      dsimp only
      have C6 := C2.frame D hns6 fun b o b1 e => hs6.extBut _ _ b1 e
      have M6 := CNm.storeF C6.F M2 (by decide)
      walk1
      refine wpAny_storeName_local rfl hns6 (fun h7 hns7 hs7 => ?_) rfl
      dsimp only
      have C7 := C6.frame D hns7 fun b o b1 e => hs7.extBut _ _ b1 e
      have M7 := CNm.storeF C7.F M6 (by decide)
      have hE7 : ∃ old, IsEnum h7 (h4.objs.size + 1) h4.objs.size (k + 1 : Nat) old := by obtain ⟨old, q⟩ := hE2; exact ⟨old, hs7.extBut _ _ (Ne.symm (new5 _ hL4).2) (hs6.extBut _ _ (Ne.symm (new5 _ hL4).2) q)⟩
      have hI7 : h7.IsListIter h4.objs.size S (k + 1) := (hI2.at fun o e => hs6.extBut _ _ (Ne.symm (new5 _ hL4).1) e).at fun o e => hs7.extBut _ _ (Ne.symm (new5 _ hL4).1) e
      clear hns₂ hns6 C2 C6 F2 hs6 hs7 hE2 hI2 hE hI
      have F7 := C7.F
      have hL7 : s.heap.objs.size < h7.objs.size := hns7.lt
      have hEl7 : h4.objs.size + 1 < h7.objs.size := by obtain ⟨_, q⟩ := hE7; exact Heap.lt_size q
      walk1
      refine wpAny_For ?_
      iterate 8 walk1
      refine call_range_2 ?_
      dsimp only
      have hsm : Builtin.Range.small (k : Int) (xs.length : Int) 1 = true := small_one (by omega) (by omega) (by omega) (by omega)
      refine wpAny_pyIter_range (IsRange.new h7 _ _ _ _ _ _) hsm ?_
      dsimp only
      generalize hH8 : (h7.push { cls := .type "range", data := .fields #[.int (k : Int) tj, .int (xs.length : Int) tm, .int 1 _] }) = h8'
      have z8 : h8'.objs.size = h7.objs.size + 1 := by rw [← hH8, Heap.size_push]
      have k8 : ∀ b o, h7.get? b = some o → h8'.get? b = some o := fun b o e => hH8 ▸ Heap.get?_push_of_some _ e
      have hrs : Builtin.Range.rangeSize (k : Int) (xs.length : Int) 1 = (xs.length : Int) - (k : Int) := by rw [rangeSize_one, if_pos (by omega)]
      rw [hrs]
      generalize hH9 : h8'.push { cls := .type "range_iterator", data := .fields #[rawInt (k : Int), rawInt ((xs.length : Int) - (k : Int)), rawInt 1] } = h9'
      have k9 : ∀ b o, h7.get? b = some o → h9'.get? b = some o := fun b o e => hH9 ▸ Heap.get?_push_of_some _ (k8 b o e)
      have hI9 : IsRangeIter h9' h8'.objs.size (k : Int) ((xs.length : Int) - (k : Int)) 1 := by rw [← hH9]; exact Heap.get?_push_size _ rfl
      have C9 := C7.frame D (hns7.keeps k9) (fun b o _ e => k9 b o e)
      have ne9 : ∀ b, b < h7.objs.size → b ≠ h8'.objs.size := fun b hb => by rw [z8]; exact Nat.ne_of_lt (Nat.lt_succ_of_lt hb)
      have hE9 : ∃ old, IsEnum h9' (h4.objs.size + 1) h4.objs.size (k + 1 : Nat) old := by obtain ⟨old, q⟩ := hE7; exact ⟨old, k9 _ _ q⟩
      have hI9' : h9'.IsListIter h4.objs.size S (k + 1) := hI7.at fun o e => k9 _ _ e
      have hS7 := C7.S.size
      have hT7 := C7.T.size
      have hR7 := C7.R.size
      have hN7 : N0 < h7.objs.size := Heap.lt_size C7.N
      have hns9 := C9.F.ns
      clear hH8 hH9 C7 F7 hns7 hE7 hI7
      refine' inner_s w (L := s.heap.objs.size) (S := S) (N := N0) (I := h8'.objs.size) (vs := vs1) (xs := xs) (seen := (xs ++ ys).take k) (x := y) (tx := ty) rfl ?d1 ?d2 k _ _ hx (Nat.le_of_lt hkx) (by omega) (by simpa using hseen) (by rw [← List.take_append_of_le_length (l₂ := ys) (Nat.le_of_lt hkx)]; simpa using hseen) C9.S C9.N hI9 hns9 M7.s ?e1 ?e2 M7.n D.SL (Ne.symm (ne9 _ hL7)) D.NL (ne9 _ hS7) (Ne.symm D.SN) (ne9 _ hN7) ?R
      case d1 => exact Nat.le_of_ble_eq_true rfl
      case d2 => exact Nat.le_of_ble_eq_true rfl
      case e1 => walk_at "MLOOK"
      case e2 => exact ⟨_, by walk_at "MLOOK"⟩
      case R =>
        intro h10 tk10 m10 tc hag hcs hns10 hS10 hk10
        dsimp only
        have ge10 : m10 (Str.ofString "elem") = some (.str y ty) := (hag _ (by decide) (by decide)).trans (by walk_at "MLOOK")
        have gt10 : ∃ t, m10 (Str.ofString "cnt_t") = some (.int 0 t) := ⟨_, (hag _ (by decide) (by decide)).trans (by walk_at "MLOOK")⟩
        have M10 := M7.agree fun z hz => hag z (fun q => by subst q; revert hz; decide) (fun q => by subst q; revert hz; decide)
        have eI0 : s.heap.get? h8'.objs.size = none := none_of_le (by rw [z8]; exact Nat.le_succ_of_le (Nat.le_of_lt hL7))
        have C10 := C9.go D hns10 hS10 (let ⟨e, q⟩ := C9.T; ⟨e, hk10 _ _ (Ne.symm D.ST) D.TL (ne9 _ hT7) q⟩) (let ⟨e, q⟩ := C9.R; ⟨e, hk10 _ _ (Ne.symm D.SR) D.RL (ne9 _ hR7) q⟩) (fun b o b1 b2 _ _ st q => hk10 b o b2 b1 (fun z => by
          subst z
          rcases st with ⟨_, _, z⟩ | z | z
          · rw [show h9'.get? h8'.objs.size = some _ from hI9] at q; cases q; cases z
          · rw [show h9'.get? h8'.objs.size = some _ from hI9, z] at q
            have z2 := congrArg Obj.data (Option.some.inj q)
            cases z2
          · rw [eI0] at z; cases z) q)
        have hEl : h4.objs.size + 1 ≠ h8'.objs.size := ne9 _ hEl7
        have hIl : h4.objs.size ≠ h8'.objs.size := ne9 _ (Nat.lt_of_succ_lt hEl7)
        have hE10 : ∃ old, IsEnum h10 (h4.objs.size + 1) h4.objs.size (k + 1 : Nat) old := by obtain ⟨old, q⟩ := hE9; exact ⟨old, hk10 _ _ (Ne.symm (new5 _ hS4).2) (Ne.symm (new5 _ hL4).2) hEl q⟩
        have hI10 : h10.IsListIter h4.objs.size S (k + 1) := hI9'.at fun o e => hk10 _ _ (Ne.symm (new5 _ hS4).1) (Ne.symm (new5 _ hL4).1) hIl e
        have gi10 : m10 (Str.ofString "i") = some (.int (k : Int) tj) := (hag _ (by decide) (by decide)).trans (by walk_at "MLOOK")
        clear C9 hns9 hk10 hI9 hE9 hI9' M7 hag M2 M6
        have F10 := C10.F
        have gT := M10.t
        have hns10' : h10.Ns (cenv s.heap.objs.size).locals m10 := hns10
        walk1
        refine wpAny_For ?_
        iterate 6 walk1
        refine call_enumerate_list C10.T.list fun h11 he11 hi11 hz11 hk11 => ?_
        dsimp only at he11 hi11 hz11 hk11 ⊢
        have hS10' := C10.S.size
        have hT10 := C10.T.size
        have hL10 := hns10.lt
        have hN10 : N0 < h10.objs.size := Heap.lt_size C10.N
        have new11 : ∀ b, b < h10.objs.size → b ≠ h10.objs.size ∧ b ≠ h10.objs.size + 1 := fun b hb => ⟨Nat.ne_of_lt hb, Nat.ne_of_lt (Nat.lt_succ_of_lt hb)⟩
        have W1 := Src.enumerate (prog := PySem.Challenge.rw_il0132_01.row.prog) (w := w) (A := (AN 450).deeper (cenv s.heap.objs.size)) rfl (h10.objs.size + 1) h10.objs.size T2 (Nat.succ_ne_self _) (new11 _ hT10).2 (new11 _ hT10).1 (blank N0 vs2 (patS ys ((xs ++ ys).take k))).toArray (Str.ofString "j") (Str.ofString "other_elem") default default default 0
        refine W1.self 0 _ _ _ ⟨⟨_, he11⟩, hi11, C10.T.list.at fun o e => hk11 _ _ e⟩ ?_
        have C11 := C10.frame D (hns10.keeps hk11) (fun b o _ e => hk11 b o e)
        have hys : StrsAre vs2 ys := by assumption
        have hE11 : ∃ old, IsEnum h11 (h4.objs.size + 1) h4.objs.size (k + 1 : Nat) old := by obtain ⟨old, q⟩ := hE10; exact ⟨old, hk11 _ _ q⟩
        have hI11 : h11.IsListIter h4.objs.size S (k + 1) := hI10.at fun o e => hk11 _ _ e
        have hEl10 : h4.objs.size + 1 < h10.objs.size := by obtain ⟨_, q⟩ := hE10; exact Heap.lt_size q
        have hR10 := C10.R.size
        have hns11 := C11.F.ns
        clear C10 F10 hns10 hns10' hk11 W1 hE10 hI10
        refine' inner_et w (L := s.heap.objs.size) (S := T2) (N := N0) (e := h10.objs.size + 1) (it := h10.objs.size) (vs := vs2) (xs := ys) (seen := (xs ++ ys).take k) (x := y) (tx := ty) rfl ?d1 ?d2 _ _ hys (by omega) (by simpa using hseen) C11.T C11.N ⟨_, he11⟩ hi11 hns11 M10.t ge10 gt10 M10.n D.TL (Ne.symm (new11 _ hL10).1) (Ne.symm (new11 _ hL10).2) D.NL (new11 _ hT10).1 (new11 _ hT10).2 (Ne.symm D.TN) (new11 _ hN10).1 (new11 _ hN10).2 (Nat.succ_ne_self _) ?R
        case d1 => exact Nat.le_of_ble_eq_true rfl
        case d2 => exact Nat.le_of_ble_eq_true rfl
        case R =>
          intro h12 tk12 m12 tc2 hag hct hns12 hT12 hk12
          dsimp only
          have e0' : s.heap.get? (h10.objs.size + 1) = none := none_of_le (Nat.le_of_lt (Nat.lt_succ_of_lt hL10))
          have i0' : s.heap.get? h10.objs.size = none := none_of_le (Nat.le_of_lt hL10)
          have M12 := M10.agree fun z hz => hag z (fun q => by subst q; revert hz; decide) (fun q => by subst q; revert hz; decide) (fun q => by subst q; revert hz; decide)
          have C12 := C11.go D hns12 (let ⟨e, q⟩ := C11.S; ⟨e, hk12 _ _ D.ST D.SL (new11 _ hS10').1 (new11 _ hS10').2 q⟩) hT12 (let ⟨e, q⟩ := C11.R; ⟨e, hk12 _ _ (Ne.symm D.TR) D.RL (new11 _ hR10).1 (new11 _ hR10).2 q⟩) (fun b o b1 _ b3 _ st q => hk12 b o b3 b1 (stays_ne_iter hi11 i0' st q) (stays_ne_enum he11 e0' st q) q)
          have hE12 : ∃ old, IsEnum h12 (h4.objs.size + 1) h4.objs.size (k + 1 : Nat) old := by
            obtain ⟨old, q⟩ := hE11
            exact ⟨old, hk12 _ _ (Ne.symm (new5 _ hT4).2) (Ne.symm (new5 _ hL4).2) (new11 _ hEl10).1 (new11 _ hEl10).2 q⟩
          have hI12 : h12.IsListIter h4.objs.size S (k + 1) := hI11.at fun o e => hk12 _ _ (Ne.symm (new5 _ hT4).1) (Ne.symm (new5 _ hL4).1) (new11 _ (Nat.lt_of_succ_lt hEl10)).1 (new11 _ (Nat.lt_of_succ_lt hEl10)).2 e
          have hcs12 : m12 (Str.ofString "cnt_s") = some (.int (xs.count y : Nat) tc) := (hag _ (by decide) (by decide) (by decide)).trans hcs
          have ge12 : m12 (Str.ofString "elem") = some (.str y ty) := (hag _ (by decide) (by decide) (by decide)).trans ge10
          clear C11 hns11 hk12 hE11 hI11 he11 hi11 M10 hag hS10 hT12
          rw [← htk] at C12
          have F12 := C12.F
          have gR := M12.r
          have hns12' : h12.Ns (cenv s.heap.objs.size).locals m12 := hns12
          iterate 6 walk1
          by_cases hcnt : xs.count y = ys.count y
          · have ee : emits (xs ++ ys) (fun x => xs.count x != ys.count x) (fun x => (xs.count x, ys.count x, x)) (k + 1) = emits (xs ++ ys) (fun x => xs.count x != ys.count x) (fun x => (xs.count x, ys.count x, x)) k := by
              simp only [emits, hyl]
              rw [if_neg (fun q => by simp [hcnt] at q), List.append_nil]
            rw [hcnt, show (((ys.count y : Nat) : Int) != ((ys.count y : Nat) : Int)) = false from bne_self_eq_false _]
            iterate 3 walk1
            refine wpAny_execs_nil ?_
            refine ⟨h12, _, m12, rs, rfl, ?_, M12, hE12, hI12⟩
            rw [ee]
            exact C12
          · rw [show (((xs.count y : Nat) : Int) != ((ys.count y : Nat) : Int)) = true from bne_iff_ne.mpr (by omega)]
            iterate 15 walk1
            have X12 := X.keeps C12.F.keep
            have T12 := T.keeps C12.F.keep
            refine wp_AN (n := 500) rfl (Nat.le_of_ble_eq_true rfl) (Nat.le_of_ble_eq_true rfl) ?_
            refine mismatch w (loose := loose) (mg := mg) (mb := mb) _ _ _ _ _ _ _ _ X12 T12 fun r h13 tk13 hk13 hf13 hr13 => ?_
            dsimp only at hk13 hf13 ⊢
            have C13 := C12.frame D (hns12.keeps hk13) (fun b o _ e => hk13 b o e)
            obtain ⟨rd, re, rsl, hr13⟩ := hr13
            refine wpAny_storeName_local rfl C13.F.ns (fun h14 hns14 hs14 => ?_) rfl
            have C14 := C13.frame D hns14 fun b o b1 e => hs14.extBut _ _ b1 e
            have M14 := CNm.storeF C14.F M12 (by decide)
            have hrL : r ≠ s.heap.objs.size := fun q => by
              have := hns12.lt
              rw [← q] at this
              obtain ⟨_, _, _, z, _⟩ := hns12
              rw [← q, hf13] at z
              cases z
            have hr14 := hs14.extBut _ _ hrL hr13
            have F14 := C14.F
            have gR14 := M14.r
            have hE14 : ∃ old, IsEnum h14 (h4.objs.size + 1) h4.objs.size (k + 1 : Nat) old := by
              obtain ⟨old, q⟩ := hE12
              exact ⟨old, hs14.extBut _ _ (Ne.symm (new5 _ hL4).2) (hk13 _ _ q)⟩
            have hI14 : h14.IsListIter h4.objs.size S (k + 1) := (hI12.at fun o e => hk13 _ _ e).at fun o e => hs14.extBut _ _ (Ne.symm (new5 _ hL4).1) e
            iterate 4 walk1
            obtain ⟨eR, hRR⟩ := C14.R
            refine getMethod_list_append hRR rfl rfl ?_
            iterate 4 walk1
            refine append_at hRR (fun h15 hs15 hR15 => ?_) (by rw [List.size_toArray, C14.M.len]; exact Nat.le_trans (emits_len _ _ _ _) (by have : sizeLine = 2 ^ 24 := rfl; omega))
            refine wpAny_execs_nil ?_
            refine wpAny_execs_nil ?_
            have ee : emits (xs ++ ys) (fun x => xs.count x != ys.count x) (fun x => (xs.count x, ys.count x, x)) (k + 1) = emits (xs ++ ys) (fun x => xs.count x != ys.count x) (fun x => (xs.count x, ys.count x, x)) k ++ [(xs.count y, ys.count y, y)] := by
              simp only [emits, hyl]
              rw [if_pos ⟨by simpa using hseen, bne_iff_ne.mpr hcnt⟩]
            have hrR : r ≠ R := fun q => by
              rw [q, hRR] at hr14
              cases hr14
            refine ⟨h15, _, _, rs ++ [.ref r], rfl, ?_, M14, ?_, ?_⟩
            · rw [ee]
              refine ⟨⟨C14.F.ns.at' fun o e => hs15.extBut _ _ (Ne.symm D.RL) e, fun b o e => hs15.extBut _ _ (fun q => by rw [q, D.R0] at e; cases e) (C14.F.keep _ _ e), C14.F.above⟩, ?_, ?_, ⟨_, by rw [List.push_toArray] at hR15; exact hR15⟩, hs15.extBut _ _ (Ne.symm D.RN) C14.N, ?_⟩
              · obtain ⟨e, q⟩ := C14.S; exact ⟨e, hs15.extBut _ _ D.SR q⟩
              · obtain ⟨e, q⟩ := C14.T; exact ⟨e, hs15.extBut _ _ D.TR q⟩
              · exact (C14.M.keep fun b o ho q => hs15.extBut _ _ (D.mm C14 ho q).2.2.2 q).snoc (hs15.extBut _ _ hrR hr14)
            · obtain ⟨old, q⟩ := hE14
              exact ⟨old, hs15.extBut _ _ (Ne.symm (new5 _ hR4).2) q⟩
            · exact hI14.at fun o e => hs15.extBut _ _ (Ne.symm (new5 _ hR4).1) e
  · rintro s' ⟨h, tk, m, rs, rfl, C, M, hE, hI⟩
    have e0 : s.heap.get? (h4.objs.size + 1) = none := none_of_le (Nat.le_of_lt (Nat.lt_succ_of_lt hL4))
    have i0 : s.heap.get? h4.objs.size = none := none_of_le (Nat.le_of_lt hL4)
    have W := Src.enumerate (prog := PySem.Challenge.rw_il0132_01.row.prog) (w := w) (A := (AN 450).deeper (cenv s.heap.objs.size)) rfl (h4.objs.size + 1) h4.objs.size S (Nat.succ_ne_self _) (new5 _ hS4).2 (new5 _ hS4).1 (blank N0 vs1 (patS xs ((xs ++ ys).take xs.length))).toArray (Str.ofString "i") (Str.ofString "elem") { line := 118, col := 8, endLine := 118, endCol := 9 } { line := 118, col := 11, endLine := 118, endCol := 15 } { line := 118, col := 8, endLine := 118, endCol := 15 } 0
    have hszW : (blank N0 vs1 (patS xs ((xs ++ ys).take xs.length))).toArray.size = xs.length := by rw [List.size_toArray, blank_len, hx.len_eq]
    rw [hszW] at W
    refine W.done (cenv s.heap.objs.size) _ _ _ ⟨hE, hI, C.S.list⟩ fun h₂ tk₂ hk' => ?_
    obtain ⟨⟨old, hE⟩, hI⟩ := And.intro hE hI
    have hns₂ : h₂.Ns s.heap.objs.size m := C.F.ns.at' fun o e => hk' _ _ (by simp [(new5 _ hL4).1, (new5 _ hL4).2]) e
    have C2 := C.move D hns₂ fun b o b1 st q => hk' _ _ (by simp [stays_ne_enum hE e0 st q, stays_ne_iter hI i0 st q]) q
    have hns₂' : h₂.Ns (cenv s.heap.objs.size).locals m := hns₂
    clear W hk' C hE hI W0 C5 M0 C0 hk5
    have F2 := C2.F
    have gT := M.t
    dsimp only
    walk1
    refine wpAny_For ?_
    iterate 6 walk1
    have hys : StrsAre vs2 ys := by assumption
    refine call_enumerate_list C2.T.list fun h5 he hi hz5 hk5 => ?_
    dsimp only at he hi hz5 hk5 ⊢
    have hS4 : S < h₂.objs.size := C2.S.size
    have hT4 : T2 < h₂.objs.size := C2.T.size
    have hR4 : R < h₂.objs.size := C2.R.size
    have hL4 : s.heap.objs.size < h₂.objs.size := C2.F.ns.lt
    have new5 : ∀ b, b < h₂.objs.size → b ≠ h₂.objs.size ∧ b ≠ h₂.objs.size + 1 := fun b hb => ⟨Nat.ne_of_lt hb, Nat.ne_of_lt (Nat.lt_succ_of_lt hb)⟩
    have WW := fun (p : Nat → Bool) (px py pt : Pos) => Src.enumerate (prog := PySem.Challenge.rw_il0132_01.row.prog) (w := w) (A := (AN 450).deeper (cenv s.heap.objs.size)) rfl (h₂.objs.size + 1) h₂.objs.size T2 (Nat.succ_ne_self _) (new5 _ hT4).2 (new5 _ hT4).1 (blank N0 vs2 p).toArray (Str.ofString "i") (Str.ofString "elem") px py pt 0
    have hszW : ∀ p, (blank N0 vs2 p).toArray.size = ys.length := fun p => by rw [List.size_toArray, blank_len, hys.len_eq]
    refine (WW (patS ys ((xs ++ ys).take xs.length)) default default default).self 0 _ _ _ ⟨⟨_, he⟩, hi, C2.T.list.at fun o e => hk5 _ _ e⟩ ?_
    have C5 := C2.frame D (C2.F.ns.keeps hk5) (fun b o _ e => hk5 b o e)
    have e0 : s.heap.get? (h₂.objs.size + 1) = none := none_of_le (Nat.le_of_lt (Nat.lt_succ_of_lt hL4))
    have i0 : s.heap.get? h₂.objs.size = none := none_of_le (Nat.le_of_lt hL4)
    refine for_go ys.length (fun q s' => ∃ h tk m rs, s' = { s with heap := h, toks := tk } ∧ CSt s.heap S T2 R N0 vs1 vs2 (patS xs ((xs ++ ys).take (xs.length + q))) (patS ys ((xs ++ ys).take (xs.length + q))) rs (emits (xs ++ ys) (fun x => xs.count x != ys.count x) (fun x => (xs.count x, ys.count x, x)) (xs.length + q)) m h ∧
      CNm S T2 R N0 xs.length ys.length m ∧ (∃ old, IsEnum h (h₂.objs.size + 1) h₂.objs.size q old) ∧ h.IsListIter h₂.objs.size T2 q) (fun _ => True) ?_ ?_ ?_
    · rintro k s' hkx ⟨h, tk, m, rs, rfl, C, M, hE, hI⟩
      refine (WW (patS ys ((xs ++ ys).take (xs.length + k))) _ _ _).step k (cenv s.heap.objs.size) m _ _ _ (by rw [hszW]; exact hkx) ⟨hE, hI, C.T.list⟩ C.F.ns (by intro hz; simp at hz; rcases hz with hz | hz | hz; exact (new5 _ hL4).2 hz; exact (new5 _ hL4).1 hz; exact D.TL hz.symm) (fun z hz => by simp only [List.mem_cons, List.not_mem_nil, or_false] at hz; rcases hz with rfl | rfl <;> rfl) rfl fun hA tkA mA hV hnsA hstA hk' => ?_
      obtain ⟨u, v, ⟨tj, v', hv', huv⟩, rfl⟩ := hV
      cases huv
      obtain ⟨⟨old, hE⟩, hI⟩ := And.intro hE hI
      have CA := C.move D hnsA fun b o b1 st q => hk' _ _ (by simp [stays_ne_enum hE e0 st q, stays_ne_iter hI i0 st q]) b1 q
      have MA := (M.store (y := Str.ofString "i") (v := .int (k : Int) tj) (by decide)).store (y := Str.ofString "elem") (v := v) (by decide)
      obtain ⟨hEA, hIA, _⟩ := hstA
      have FA := CA.F
      obtain ⟨y, hy⟩ : ∃ y, ys[k]? = some y := ⟨_, List.getElem?_eq_getElem hkx⟩
      have hyl : (xs ++ ys)[xs.length + k]? = some y := by rw [List.getElem?_append_right (Nat.le_add_right _ _), Nat.add_sub_cancel_left]; exact hy
      obtain ⟨ty, hv⟩ := hys.at hy
      have hvv : v = (if ((xs ++ ys).take (xs.length + k)).contains y then .ref N0 else .str y ty) := by
        rw [List.getElem?_toArray, blank_at, hv] at hv'
        have e : patS ys ((xs ++ ys).take (xs.length + k)) k = ((xs ++ ys).take (xs.length + k)).contains y := by unfold patS; rw [hy]
        rw [e] at hv'
        exact (Option.some.inj hv').symm
      have htk : (xs ++ ys).take (xs.length + (k + 1)) = (xs ++ ys).take (xs.length + k) ++ [y] := by rw [show xs.length + (k + 1) = (xs.length + k) + 1 from rfl, List.take_add_one, hyl]; rfl
      have gN := MA.n
      have ge : (fun z => if z = Str.ofString "elem" then some v else if z = Str.ofString "i" then some (Value.int (k : Int) tj) else m z) (Str.ofString "elem") = some v := if_pos rfl
      obtain ⟨tm, gm⟩ := M.n2
      clear hv' hk' C M C5 hk5
      dsimp only
      iterate 5 walk1
      by_cases hseen : ((xs ++ ys).take (xs.length + k)).contains y = true
      · rw [if_pos hseen] at hvv
        subst hvv
        refine is_obj ?_
        iterate 4 walk1
        have ep : ∀ zs, patS zs ((xs ++ ys).take (xs.length + (k + 1))) = patS zs ((xs ++ ys).take (xs.length + k)) := fun zs => by rw [htk, patS_seen hseen]
        have ee : emits (xs ++ ys) (fun x => xs.count x != ys.count x) (fun x => (xs.count x, ys.count x, x)) (xs.length + (k + 1)) = emits (xs ++ ys) (fun x => xs.count x != ys.count x) (fun x => (xs.count x, ys.count x, x)) (xs.length + k) := by
          rw [show xs.length + (k + 1) = (xs.length + k) + 1 from rfl]
          simp only [emits, hyl]
          rw [if_neg (fun q => q.1 (by simpa using hseen)), List.append_nil]
        refine ⟨hA, _, _, rs, rfl, ?_, MA, hEA, hIA⟩
        rw [ep, ep, ee]
        exact CA
      · rw [if_neg hseen] at hvv
        subst hvv
        refine is_str ?_
        iterate 6 walk1
        refine wpAny_storeName_local rfl hnsA (fun h7 hns7 hs7 => ?_) rfl
        dsimp only
        have C7 := CA.frame D hns7 fun b o b1 e => hs7.extBut _ _ b1 e
        have M7 := CNm.storeF C7.F MA (by decide)
        have hE7 : ∃ old, IsEnum h7 (h₂.objs.size + 1) h₂.objs.size (k + 1 : Nat) old := by obtain ⟨old, q⟩ := hEA; exact ⟨old, hs7.extBut _ _ (Ne.symm (new5 _ hL4).2) q⟩
        have hI7 : h7.IsListIter h₂.objs.size T2 (k + 1) := hIA.at fun o e => hs7.extBut _ _ (Ne.symm (new5 _ hL4).1) e
        clear hnsA CA FA hs7 hEA hIA hE hI
        have F7 := C7.F
        have hL7 : s.heap.objs.size < h7.objs.size := hns7.lt
        have hEl7 : h₂.objs.size + 1 < h7.objs.size := by obtain ⟨_, q⟩ := hE7; exact Heap.lt_size q
        walk1
        refine wpAny_For ?_
        iterate 8 walk1
        refine call_range_2 ?_
        dsimp only
        have hsm : Builtin.Range.small (k : Int) (ys.length : Int) 1 = true := small_one (by omega) (by omega) (by omega) (by omega)
        refine wpAny_pyIter_range (IsRange.new h7 _ _ _ _ _ _) hsm ?_
        dsimp only
        generalize hH8 : (h7.push { cls := .type "range", data := .fields #[.int (k : Int) tj, .int (ys.length : Int) tm, .int 1 _] }) = h8'
        have z8 : h8'.objs.size = h7.objs.size + 1 := by rw [← hH8, Heap.size_push]
        have k8 : ∀ b o, h7.get? b = some o → h8'.get? b = some o := fun b o e => hH8 ▸ Heap.get?_push_of_some _ e
        have hrs : Builtin.Range.rangeSize (k : Int) (ys.length : Int) 1 = (ys.length : Int) - (k : Int) := by rw [rangeSize_one, if_pos (by omega)]
        rw [hrs]
        generalize hH9 : h8'.push { cls := .type "range_iterator", data := .fields #[rawInt (k : Int), rawInt ((ys.length : Int) - (k : Int)), rawInt 1] } = h9'
        have k9 : ∀ b o, h7.get? b = some o → h9'.get? b = some o := fun b o e => hH9 ▸ Heap.get?_push_of_some _ (k8 b o e)
        have hI9 : IsRangeIter h9' h8'.objs.size (k : Int) ((ys.length : Int) - (k : Int)) 1 := by rw [← hH9]; exact Heap.get?_push_size _ rfl
        have C9 := C7.frame D (hns7.keeps k9) (fun b o _ e => k9 b o e)
        have ne9 : ∀ b, b < h7.objs.size → b ≠ h8'.objs.size := fun b hb => by rw [z8]; exact Nat.ne_of_lt (Nat.lt_succ_of_lt hb)
        have hE9 : ∃ old, IsEnum h9' (h₂.objs.size + 1) h₂.objs.size (k + 1 : Nat) old := by obtain ⟨old, q⟩ := hE7; exact ⟨old, k9 _ _ q⟩
        have hI9' : h9'.IsListIter h₂.objs.size T2 (k + 1) := hI7.at fun o e => k9 _ _ e
        have hS7 := C7.S.size
        have hT7 := C7.T.size
        have hR7 := C7.R.size
        have hN7 : N0 < h7.objs.size := Heap.lt_size C7.N
        have hns9 := C9.F.ns
        have hnin : y ∉ (xs ++ ys).take (xs.length + k) := by simpa using hseen
        have hsp : (xs ++ ys).take (xs.length + k) = xs ++ ys.take k := by rw [List.take_append, List.take_of_length_le (Nat.le_add_right _ _), Nat.add_sub_cancel_left]
        have hyx0 : xs.count y = 0 := List.count_eq_zero.mpr fun q => hnin (by rw [hsp]; exact List.mem_append_left _ q)
        have hyy : 0 < ys.count y := List.count_pos_iff.mpr (List.mem_of_getElem? hy)
        clear hH8 hH9 C7 F7 hns7 hE7 hI7
        refine' inner_t w (L := s.heap.objs.size) (S := T2) (N := N0) (I := h8'.objs.size) (vs := vs2) (xs := ys) (seen := (xs ++ ys).take (xs.length + k)) (x := y) (tx := ty) rfl ?d1 ?d2 k _ _ hys (Nat.le_of_lt hkx) (by omega) hnin (fun q => hnin (by rw [hsp]; exact List.mem_append_right _ q)) C9.T C9.N hI9 hns9 M7.t ?e1 ?e2 M7.n D.TL (Ne.symm (ne9 _ hL7)) D.NL (ne9 _ hT7) (Ne.symm D.TN) (ne9 _ hN7) ?R
        case d1 => exact Nat.le_of_ble_eq_true rfl
        case d2 => exact Nat.le_of_ble_eq_true rfl
        case e1 => walk_at "MLOOK"
        case e2 => exact ⟨_, by walk_at "MLOOK"⟩
        case R =>
          intro h10 tk10 m10 tc hag hcs hns10 hT10 hk10
          dsimp only
          have ge10 : m10 (Str.ofString "elem") = some (.str y ty) := (hag _ (by decide) (by decide)).trans (by walk_at "MLOOK")
          have M10 := M7.agree fun z hz => hag z (fun q => by subst q; revert hz; decide) (fun q => by subst q; revert hz; decide)
          have eI0 : s.heap.get? h8'.objs.size = none := none_of_le (by rw [z8]; exact Nat.le_succ_of_le (Nat.le_of_lt hL7))
          have C12 := C9.go D hns10 (let ⟨e, q⟩ := C9.S; ⟨e, hk10 _ _ D.ST D.SL (ne9 _ hS7) q⟩) hT10 (let ⟨e, q⟩ := C9.R; ⟨e, hk10 _ _ (Ne.symm D.TR) D.RL (ne9 _ hR7) q⟩) (pS' := patS xs ((xs ++ ys).take (xs.length + k))) (fun b o b1 _ b3 _ st q => hk10 b o b3 b1 (fun z => by
            subst z
            rcases st with ⟨_, _, z⟩ | z | z
            · rw [show h9'.get? h8'.objs.size = some _ from hI9] at q; cases q; cases z
            · rw [show h9'.get? h8'.objs.size = some _ from hI9, z] at q
              have z2 := congrArg Obj.data (Option.some.inj q)
              cases z2
            · rw [eI0] at z; cases z) q)
          have hE12 : ∃ old, IsEnum h10 (h₂.objs.size + 1) h₂.objs.size (k + 1 : Nat) old := by obtain ⟨old, q⟩ := hE9; exact ⟨old, hk10 _ _ (Ne.symm (new5 _ hT4).2) (Ne.symm (new5 _ hL4).2) (ne9 _ hEl7) q⟩
          have hI12 : h10.IsListIter h₂.objs.size T2 (k + 1) := hI9'.at fun o e => hk10 _ _ (Ne.symm (new5 _ hT4).1) (Ne.symm (new5 _ hL4).1) (ne9 _ (Nat.lt_of_succ_lt hEl7)) e
          clear C9 hns9 hk10 hI9 hE9 hI9' M7 hag hT10
          have F12 := C12.F
          have hns12' : h10.Ns (cenv s.heap.objs.size).locals m10 := hns10
          iterate 13 walk1
          have X12 := X.keeps C12.F.keep
          have T12 := T.keeps C12.F.keep
          refine wp_AN (n := 500) rfl (Nat.le_of_ble_eq_true rfl) (Nat.le_of_ble_eq_true rfl) ?_
          refine mismatch w (loose := loose) (mg := mg) (mb := mb) _ _ _ _ _ _ _ _ X12 T12 fun r h13 tk13 hk13 hf13 hr13 => ?_
          dsimp only at hk13 hf13 ⊢
          have C13 := C12.frame D (hns10.keeps hk13) (fun b o _ e => hk13 b o e)
          obtain ⟨rd, re, rsl, hr13⟩ := hr13
          refine wpAny_storeName_local rfl C13.F.ns (fun h14 hns14 hs14 => ?_) rfl
          have C14 := C13.frame D hns14 fun b o b1 e => hs14.extBut _ _ b1 e
          have M14 := CNm.storeF C14.F M10 (by decide)
          have hrL : r ≠ s.heap.objs.size := fun q => by
            obtain ⟨_, _, _, z, _⟩ := hns10
            rw [← q, hf13] at z
            cases z
          have hr14 := hs14.extBut _ _ hrL hr13
          have F14 := C14.F
          have gR14 := M14.r
          have hE14 : ∃ old, IsEnum h14 (h₂.objs.size + 1) h₂.objs.size (k + 1 : Nat) old := by
            obtain ⟨old, q⟩ := hE12
            exact ⟨old, hs14.extBut _ _ (Ne.symm (new5 _ hL4).2) (hk13 _ _ q)⟩
          have hI14 : h14.IsListIter h₂.objs.size T2 (k + 1) := (hI12.at fun o e => hk13 _ _ e).at fun o e => hs14.extBut _ _ (Ne.symm (new5 _ hL4).1) e
          iterate 4 walk1
          obtain ⟨eR, hRR⟩ := C14.R
          refine getMethod_list_append hRR rfl rfl ?_
          iterate 4 walk1
          refine append_at hRR (fun h15 hs15 hR15 => ?_) (by rw [List.size_toArray, C14.M.len]; exact Nat.le_trans (emits_len _ _ _ _) (by have : sizeLine = 2 ^ 24 := rfl; omega))
          refine wpAny_execs_nil ?_
          have ee : emits (xs ++ ys) (fun x => xs.count x != ys.count x) (fun x => (xs.count x, ys.count x, x)) (xs.length + (k + 1)) = emits (xs ++ ys) (fun x => xs.count x != ys.count x) (fun x => (xs.count x, ys.count x, x)) (xs.length + k) ++ [(0, ys.count y, y)] := by
            rw [show xs.length + (k + 1) = (xs.length + k) + 1 from rfl]
            simp only [emits, hyl]
            rw [if_pos ⟨hnin, bne_iff_ne.mpr (by omega)⟩, hyx0]
          have hrR : r ≠ R := fun q => by
            rw [q, hRR] at hr14
            cases hr14
          have epx : blank N0 vs1 (patS xs ((xs ++ ys).take (xs.length + (k + 1)))) = blank N0 vs1 (patS xs ((xs ++ ys).take (xs.length + k))) := blank_congr fun q _ => by
            unfold patS
            cases hz : xs[q]? with
            | none => rfl
            | some z =>
              have hzy : z ≠ y := fun e => (List.count_eq_zero.mp hyx0) (e ▸ List.mem_of_getElem? hz)
              rw [htk]; simp [hzy]
          refine ⟨h15, _, _, rs ++ [.ref r], rfl, ?_, M14, ?_, ?_⟩
          · rw [ee, htk]
            refine ⟨C14.F.ns.at' (fun o e => hs15.extBut _ _ (Ne.symm D.RL) e) |> fun z => ⟨z, fun b o e => hs15.extBut _ _ (fun q => by rw [q, D.R0] at e; cases e) (C14.F.keep _ _ e), C14.F.above⟩, ?_, ?_, ⟨_, by rw [List.push_toArray] at hR15; exact hR15⟩, hs15.extBut _ _ (Ne.symm D.RN) C14.N, ?_⟩
            · obtain ⟨e, q⟩ := C14.S; rw [← htk, epx]; exact ⟨e, hs15.extBut _ _ D.SR q⟩
            · obtain ⟨e, q⟩ := C14.T; exact ⟨e, hs15.extBut _ _ D.TR q⟩
            · exact (C14.M.keep fun b o ho q => hs15.extBut _ _ (D.mm C14 ho q).2.2.2 q).snoc (hs15.extBut _ _ hrR hr14)
          · obtain ⟨old, q⟩ := hE14
            exact ⟨old, hs15.extBut _ _ (Ne.symm (new5 _ hR4).2) q⟩
          · exact hI14.at fun o e => hs15.extBut _ _ (Ne.symm (new5 _ hR4).1) e
    · rintro s' ⟨h, tk, m, rs, rfl, C, M, hE, hI⟩
      refine (WW (patS ys ((xs ++ ys).take (xs.length + ys.length))) _ _ _).done (cenv s.heap.objs.size) _ _ _ ⟨by rw [hszW]; exact hE, by rw [hszW]; exact hI, C.T.list⟩ fun h₃ tk₃ hk' => ?_
      obtain ⟨⟨old, hE⟩, hI⟩ := And.intro hE hI
      have hns₃ : h₃.Ns s.heap.objs.size m := C.F.ns.at' fun o e => hk' _ _ (by simp [(new5 _ hL4).1, (new5 _ hL4).2]) e
      have C3 := C.move D hns₃ fun b o b1 st q => hk' _ _ (by simp [stays_ne_enum hE e0 st q, stays_ne_iter hI i0 st q]) q
      have hns₃' : h₃.Ns (cenv s.heap.objs.size).locals m := hns₃
      have gR := M.r
      dsimp only
      iterate 3 walk1
      exact hret R rs h₃ _ C3.F.keep D.R0 C3.R C3.M
    · exact ⟨_, _, _, _, rfl, C5, M, ⟨_, he⟩, hi⟩
  · exact ⟨_, _, _, [], rfl, C5, M0, ⟨_, he⟩, hi⟩

end

section

/-- a room whose frames are known -/
abbrev AF (n : Nat) (l : List Env) : Around := { handled := none, depth := n, units := n, frames := some l }
theorem wp_AF {α : Type} {n : Nat} {l : List Env} {M : Model} {A : Around} {t : Sem α} {Q : α → Shared → Prop} {E : Value → Shared → Prop} {s : Shared}
    (hh : A.handled = none) (hf : A.frames = some l) (hd : A.depth ≤ n) (hu : A.units ≤ n) (h : wpAny M (AF n l) t Q E s) : wpAny M A t Q E s :=
  fun Γ p hΓ => h Γ p ⟨hΓ.1.trans hh, Nat.le_trans hΓ.2.1 hd, (by intro l' e; cases e; exact hΓ.2.2.1 _ hf), (by intro l e; cases e), Nat.le_trans hΓ.2.2.2.2 hu⟩

/-- only the slots of some objects (frames) have changed -/
def Turned (fs : List Addr) (h h' : Heap) : Prop :=
  (∀ b o, b ∉ fs → h.get? b = some o → h'.get? b = some o) ∧ (∀ b o, b ∈ fs → h.get? b = some o → ∃ sl, h'.get? b = some { o with slots := sl })
theorem Turned.up {fs : List Addr} {h h' : Heap} (x : Turned fs h h') {b : Addr} {o : Obj} (e : h.get? b = some o) : ∃ sl, h'.get? b = some { o with slots := sl } := by
  by_cases m : b ∈ fs
  · exact x.2 _ _ m e
  · exact ⟨o.slots, x.1 _ _ m e⟩
theorem Turned.ns {fs : List Addr} {h h' : Heap} {L : Addr} {m : Str → Option Value} (x : Turned fs h h') (hn : h.Ns L m) : h'.Ns L m := by
  obtain ⟨o, es, ep, ho, hd, r⟩ := hn
  obtain ⟨sl, hs⟩ := x.up ho
  exact ⟨_, es, ep, hs, hd, r⟩
theorem Turned.funs {fs : List Addr} {h h' base : Heap} {l : List Env} (x : Turned fs h h') (hl : h.FunFrames base l) : h'.FunFrames base l :=
  hl.of_keeps fun b o e _ => by
    obtain ⟨sl, hs⟩ := x.up e
    exact ⟨_, hs, rfl⟩

section
variable {M : Model} {A : Around} {E : Value → Shared → Prop} {s : Shared}
theorem looks_first {base : Heap} {env : Env} {outer : List Env} {L e : Addr} {oe : Obj} {vs : Array Value} {a0 : Value} {Q : Unit → Shared → Prop}
    (hfr : A.frames = some (env :: outer)) (hl : s.heap.FunFrames base (env :: outer)) (hf : env.frame = some L)
    (he : s.heap.get? e = some oe) (hkb : base.StaysIn s.heap) (hen : base.get? e = none) (hd : oe.data = .fields vs) (h1 : vs[1]? = some .none) (h0 : vs[0]? = some a0)
    (h : ∀ h', Heap.NotedW base (env :: outer) e oe.cls a0 (rawInt L) s.heap h' → Q () { s with heap := h' }) : wpAny M A (noteFrame (.ref e) env) Q E s := by
  unfold noteFrame
  simp only [hf]
  refine wpAny_bind (wpAny_field he hd h1 ?_)
  rw [if_neg (by decide)]
  exact wpAny_entryW hfr hl hf he hkb hen hd (Array.getElem?_eq_some_iff.mp h1).1 h0 h
end

section
variable {prog : Program} {w : World} {A : Around} {s' : Shared}
theorem caught_own {env : Env} {outer : List Env} {L e : Addr} {base h : Heap} {X T : String} {t : Expr} {b₀ : Stmt} {suite : List Stmt} {pos : Pos} {rest : List ExceptHandler} {Q : Flow → Shared → Prop}
    (hfr : A.frames = some (env :: outer)) (hf : env.frame = some L) (hl : h.FunFrames base (env :: outer)) (hx : Heap.NewExc h s'.heap e X)
    (hexc : isSubtype (.type T) (.type "BaseException") = pure true) (hnt : isSubtype (.type ((Manifest.find? T).elim "type" fun y => y.metatype)) (.type "tuple") = pure false) (hsub : isSubtype (.type X) (.type T) = pure true)
    (hname : ∀ (h' : Heap) (Q' : Value → Shared → Prop), Turned ((env :: outer).filterMap (·.frame)) h h' → Q' (.type T) { s' with heap := h' } →
      wpAny (model prog w) (A.mark (some (.ref e))) (eval t env) Q' NoE { s' with heap := h' })
    (k : ∀ h', Turned ((env :: outer).filterMap (·.frame)) h h' → wpAny (model prog w) (A.mark (some (.ref e))) (execs (b₀ :: suite) env) Q NoE { s' with heap := h' }) :
    wpAny (model prog w) A (noteFrame (.ref e) env)
      (fun _ s₂ => wpAny (model prog w) A (setFlight (.ref e) none) (fun _ s₃ =>
        wpAny (model prog w) A (handleBy (.ref e) env (.ExceptHandler (some t) none (b₀ :: suite) pos :: rest)) Q NoE s₃) NoE s₂) NoE s' := by
  obtain ⟨ob, tp, he, hcls, hd⟩ := hx.there
  have hlB : h.FunFrames (hideAll h ((env :: outer).filterMap (·.frame))) (env :: outer) := funFrames_hide hl fun e' he' a ha => List.mem_filterMap.mpr ⟨e', he', ha⟩
  have turn : ∀ {g : Heap}, (hideAll h ((env :: outer).filterMap (·.frame))).StaysIn g → s'.heap.UpToSlots g → Turned ((env :: outer).filterMap (·.frame)) h g := fun st up => by
    refine ⟨fun b o m q => st _ _ (hideAll_get _ q m), fun b o m q => ?_⟩
    obtain ⟨_, o', ho', hnf⟩ := hl.mem m
    rw [q] at ho'; cases ho'
    exact up _ _ (hx.keeps _ _ q) hnf
  have hen : (hideAll h ((env :: outer).filterMap (·.frame))).get? e = none := by
    cases q : (hideAll h ((env :: outer).filterMap (·.frame))).get? e with
    | none => rfl
    | some o => have := of_hideAll _ q; rw [hx.new] at this; cases this
  refine looks_first (a0 := tp) (oe := ob) hfr (hlB.of_keeps fun b o hb _ => ⟨o, hx.keeps b o hb, rfl⟩) hf he (fun b o hb => hx.keeps b o (of_hideAll _ hb)) hen hd rfl rfl fun h₄ hN => ?_
  obtain ⟨k1, k2, k3, k4⟩ := hN
  refine wpAny_landsW (L := L) ⟨k1, hen, k2, k3⟩ fun h₅ hfl sm₅ => ?_
  have k4' : s'.heap.UpToSlots h₄ := k4
  obtain ⟨ob₅, hob₅, hc₅⟩ := hfl.there
  refine wpAny_handleBy_builtin (X := X) (T := T) (b := true) hexc hnt hsub (wp_noE (hname h₅ _ (turn hfl.1 (k4'.trans sm₅)) ⟨rfl, ⟨ob₅, hob₅, hc₅.trans hcls⟩, ?_⟩))
  rw [if_pos rfl]
  refine lands_againW hfl fun h₆ hfl₆ sm₆ => ?_
  exact wp_noE (k h₆ (turn hfl₆.1 ((k4'.trans sm₅).trans sm₆)))

theorem pop_last {l : Addr} {vs : List Value} {v : Value} {Q : Value → Shared → Prop} {E : Value → Shared → Prop} (hl : IsL s'.heap l (vs ++ [v])) (hz : vs.length < sizeLine)
    (h : ∀ h', Heap.SameBut l s'.heap h' → IsL h' l vs → Q v { s' with heap := h' }) : wpAny (model prog w) A (call (.builtin "list.pop") [.ref l]) Q E s' := by
  obtain ⟨n, e⟩ := hl
  have hk : (vs ++ [v]).toArray.size - 1 = vs.length := by rw [List.size_toArray, List.length_append]; rfl
  have hy : (vs ++ [v]).toArray[(vs ++ [v]).toArray.size - 1]? = some v := by rw [hk]; simp
  refine call_meets PySem.F.slot_list_pop ⟨_, e, rfl⟩ PySem.F.entry_list_pop (PySem.F.args_list_pop_1 _) (PySem.MeetsSeq.list_pop_last l _ n v hy (by rw [List.size_toArray, List.length_append]; exact hz)) ⟨e, h _ (Heap.SameBut.update ..) ?_⟩
  have q := PySem.IsL.update e (fun xs => xs.eraseIdxIfInBounds ((vs ++ [v]).toArray.size - 1))
  rw [show (vs ++ [v]).toArray.eraseIdxIfInBounds ((vs ++ [v]).toArray.size - 1) = vs.toArray by rw [hk, kl_erase, List.append_nil]] at q
  exact ⟨_, q⟩

theorem erase_idx : ∀ {vs : List Value} {ys : List Str} {k : Str}, StrsAre vs ys → k ∈ ys → ∃ j, ∃ hj : j < vs.length, isStrOf k vs[j] = true ∧ (∀ m (hm : m < vs.length), m < j → isStrOf k vs[m] = false) ∧ StrsAre (vs.eraseIdx j) (ys.erase k)
  | _, _, k, .nil, h => nomatch h
  | _, _, k, .cons n t hr, h => by
    by_cases e : n = k
    · subst e
      refine ⟨0, Nat.zero_lt_succ _, ?_, (fun m _ q => absurd q (Nat.not_lt_zero _)), ?_⟩
      · simp [isStrOf]
      · rw [List.erase_cons_head]; exact hr
    · obtain ⟨j, hj, h1, h2, h3⟩ := erase_idx hr ((List.mem_cons.mp h).resolve_left (Ne.symm e))
      refine ⟨j + 1, Nat.succ_lt_succ hj, h1, fun m hm q => ?_, ?_⟩
      · cases m with
        | zero => simp [isStrOf, e]
        | succ m => exact h2 m (Nat.lt_of_succ_lt_succ hm) (Nat.lt_of_succ_lt_succ q)
      · rw [List.erase_cons_tail (by simpa using e), List.eraseIdx_cons_succ]
        exact .cons _ _ h3
theorem erase_none : ∀ {vs : List Value} {ys : List Str} {k : Str}, StrsAre vs ys → k ∉ ys → ∀ m (hm : m < vs.length), isStrOf k vs[m] = false
  | _, _, _, .nil, _, _, hm => nomatch hm
  | _, _, k, .cons n t hr, h, 0, hm => by
    have : ¬ n = k := fun e => h (e ▸ List.mem_cons_self)
    simp [isStrOf, this]
  | _, _, k, .cons n t hr, h, m + 1, hm => erase_none hr (fun q => h (List.mem_cons_of_mem _ q)) m (Nat.lt_of_succ_lt_succ hm)

theorem remove_hit {l : Addr} {vs : List Value} {ys : List Str} {k : Str} {t : Tok} {Q : Value → Shared → Prop} {E : Value → Shared → Prop} (hl : IsL s'.heap l vs) (hy : StrsAre vs ys) (hm : k ∈ ys) (hz : vs.length ≤ sizeLine)
    (h : ∀ h' vs', Heap.SameBut l s'.heap h' → IsL h' l vs' → StrsAre vs' (ys.erase k) → Q .none { s' with heap := h' }) : wpAny (model prog w) A (call (.builtin "list.remove") [.ref l, .str k t]) Q E s' := by
  obtain ⟨n, e⟩ := hl
  obtain ⟨j, hj, h1, h2, h3⟩ := erase_idx hy hm
  refine call_meets PySem.F.slot_list_remove ⟨_, e, rfl⟩ PySem.F.entry_list_remove (PySem.F.args_list_remove_2 _ _)
    (MeetsSeq.list_remove l vs.toArray n (.str k t) (isStrOf k) (fun y q => eq_isStrOf k t hy y (by simpa using q)) j (by simpa using hj) (by simpa using h1) (fun m hm q => by simpa using h2 m (by simpa using hm) q) (by rw [List.size_toArray]; exact hz))
    ⟨e, h _ (vs.eraseIdx j) (Heap.SameBut.update ..) ?_ h3⟩
  have q := PySem.IsL.update e (fun xs => xs.eraseIdxIfInBounds j)
  have e2 : vs.toArray.eraseIdxIfInBounds j = (vs.eraseIdx j).toArray := by
    apply Array.toList_inj.mp
    simp
  rw [e2] at q
  exact ⟨_, q⟩
theorem remove_miss {l : Addr} {vs : List Value} {ys : List Str} {k : Str} {t : Tok} {Q : Value → Shared → Prop} {E : Value → Shared → Prop} (hA : A.handled = none) (hl : IsL s'.heap l vs) (hy : StrsAre vs ys) (hm : k ∉ ys)
    (h : ∀ h' tk e, Heap.NewExc s'.heap h' e "ValueError" → E (.ref e) { s' with heap := h', toks := tk }) : wpAny (model prog w) A (call (.builtin "list.remove") [.ref l, .str k t]) Q E s' := by
  obtain ⟨n, e⟩ := hl
  exact call_meets PySem.F.slot_list_remove ⟨_, e, rfl⟩ PySem.F.entry_list_remove (PySem.F.args_list_remove_2 _ _)
    (MeetsSeq.list_remove_none l vs.toArray n (.str k t) (isStrOf k) (fun y q => eq_isStrOf k t hy y (by simpa using q)) (fun m q => by simpa using erase_none hy hm m (by simpa using q)))
    ⟨e, hA, h⟩
end

end

section
local macro_rules | `(tactic| walk_at "PAD") => `(tactic| skip)
local macro_rules | `(tactic| walk_at "PAD") => `(tactic| skip)
local macro_rules | `(tactic| walk_at "PAD") => `(tactic| skip)
local macro_rules | `(tactic| walk_at "PAD") => `(tactic| skip)
local macro_rules | `(tactic| walk_at "PAD") => `(tactic| skip)
local macro_rules | `(tactic| walk_at "eval Name") => `(tactic| ((with_reducible show wpAny _ _ (eval (Expr.Name _ _) (envOf _ _ _ _ _)) _ _ _); refine' wpAny_Name (wpAny_loadName_local rfl rfl ?hn ?hv ?_); (case hn => first | (with_reducible assumption) | assumption); (case hv => walk_at "MLOOK")))
theorem while_go {prog : Program} {w : World} {A : Around} {env : Env} {s : Shared} {test : Expr} {body : List Stmt} {R : Result → Shared → Prop} (Inv : Nat → Shared → Prop)
    (turn : ∀ n s, Inv n s → wpAny (model prog w) A (isTrue test env (eval test env)) (fun b s₂ => if b = true then
        wpAny (model prog w) A (execs body env) (fun f s₃ => match f with | .next | .cont => ∃ m, m < n ∧ Inv m s₃ | .brk => R (.ok .next) s₃ | .ret v => R (.ok (.ret v)) s₃) NoE s₂
      else R (.ok .next) s₂) NoE s) (n : Nat) (h : Inv n s) : codeAny (model prog w) A (.whileLoop test body [] env) R s := by
  refine codeAny_whileLoop Inv (fun n s hI => ?_) n h
  refine wp_noE (wpAny_mono (turn n s hI) (fun b s₂ h₂ => ?_) fun _ _ e => e)
  cases b with
  | true => rw [if_pos rfl] at h₂ ⊢; exact wp_noE h₂
  | false => rw [if_neg Bool.false_ne_true] at h₂ ⊢; exact wpAny_execs_nil h₂

theorem funs_mem {h h' base : Heap} : ∀ {l : List Env}, (∀ b ∈ l.filterMap (·.frame), ∀ o, h.get? b = some o → ∃ sl, h'.get? b = some { o with slots := sl }) → h.FunFrames base l → h'.FunFrames base l
  | [], _, _ => trivial
  | env :: r, k, ⟨hk, ⟨L, o, hf, hn, ho, hd⟩, hr⟩ => by
    obtain ⟨sl, q⟩ := k L (List.mem_filterMap.mpr ⟨env, .head _, hf⟩) o ho
    refine ⟨hk, ⟨L, _, hf, hn, q, hd⟩, funs_mem (fun b hb => k b ?_) hr⟩
    obtain ⟨e', he', hq⟩ := List.mem_filterMap.mp hb
    exact List.mem_filterMap.mpr ⟨e', .tail _ he', hq⟩
theorem nmc {a b : Addr} {l : List Addr} (h : a ≠ b ∧ a ∉ l) : a ∉ b :: l := fun q => (List.mem_cons.mp q).elim h.1 h.2
structure USt (base H : Heap) (outer : List Env) (l1 l2 mm : Addr) (v1 v2 vm : List Value) (m : Str → Option Value) (h : Heap) : Prop where
  F : Fr base H.objs.size h m
  A1 : IsL h l1 v1
  A2 : IsL h l2 v2
  Mm : IsL h mm vm
  fr : h.FunFrames base outer
  keep : ∀ b o, b ≠ l1 → b ≠ l2 → b ∉ outer.filterMap (·.frame) → H.get? b = some o → h.get? b = some o
  up : ∀ b o, b ∈ outer.filterMap (·.frame) → H.get? b = some o → ∃ sl, h.get? b = some { o with slots := sl }

structure UAp (base H : Heap) (outer : List Env) (l1 l2 mm : Addr) : Prop where
  st : base.StaysIn H
  fr : H.FunFrames base outer
  n1 : base.get? l1 = none
  n2 : base.get? l2 = none
  ne : l1 ≠ l2
  f1 : l1 ∉ outer.filterMap (·.frame)
  f2 : l2 ∉ outer.filterMap (·.frame)
  e1 : ∃ o, H.get? l1 = some o
  e2 : ∃ o, H.get? l2 = some o
  ml : mm ≠ H.objs.size
  m0 : H.get? mm = none

structure UNm (l1 l2 mm : Addr) (m : Str → Option Value) : Prop where
  e : m (Str.ofString "expected") = some (.ref l1)
  a : m (Str.ofString "actual") = some (.ref l2)
  m : m (Str.ofString "missing") = some (.ref mm)

section
variable {base H : Heap} {outer : List Env} {l1 l2 mm : Addr} {v1 v2 vm v1' v2' vm' : List Value} {m m' : Str → Option Value} {h h' : Heap}
theorem UAp.inf (D : UAp base H outer l1 l2 mm) {b : Addr} (hb : b ∈ outer.filterMap (·.frame)) : b < H.objs.size := by
  obtain ⟨_, o, ho, _⟩ := D.fr.mem hb
  exact Heap.lt_size ho
theorem UAp.L1 (D : UAp base H outer l1 l2 mm) : l1 ≠ H.objs.size := let ⟨_, e⟩ := D.e1; Nat.ne_of_lt (Heap.lt_size e)
theorem UAp.L2 (D : UAp base H outer l1 l2 mm) : l2 ≠ H.objs.size := let ⟨_, e⟩ := D.e2; Nat.ne_of_lt (Heap.lt_size e)
theorem UAp.m1 (D : UAp base H outer l1 l2 mm) : mm ≠ l1 := fun q => by obtain ⟨_, e⟩ := D.e1; rw [← q, D.m0] at e; cases e
theorem UAp.m2 (D : UAp base H outer l1 l2 mm) : mm ≠ l2 := fun q => by obtain ⟨_, e⟩ := D.e2; rw [← q, D.m0] at e; cases e
theorem UAp.fm (D : UAp base H outer l1 l2 mm) : mm ∉ outer.filterMap (·.frame) := fun q => by
  obtain ⟨_, o, ho, _⟩ := D.fr.mem q
  rw [D.m0] at ho; cases ho
theorem UAp.fL (D : UAp base H outer l1 l2 mm) : H.objs.size ∉ outer.filterMap (·.frame) := fun q => absurd (D.inf q) (Nat.lt_irrefl _)
theorem USt.go (D : UAp base H outer l1 l2 mm) (C : USt base H outer l1 l2 mm v1 v2 vm m h) (hn : h'.Ns H.objs.size m') (a1 : IsL h' l1 v1') (a2 : IsL h' l2 v2') (am : IsL h' mm vm')
    (k : ∀ b o, b ≠ H.objs.size → b ≠ l1 → b ≠ l2 → b ≠ mm → b ∉ outer.filterMap (·.frame) → h.get? b = some o → h'.get? b = some o)
    (u : ∀ b o, b ∈ outer.filterMap (·.frame) → h.get? b = some o → ∃ sl, h'.get? b = some { o with slots := sl }) : USt base H outer l1 l2 mm v1' v2' vm' m' h' where
  F := ⟨hn, fun b o e => by
    have hb := Heap.lt_size (D.st _ _ e)
    exact k b o (Nat.ne_of_lt hb) (fun q => by rw [q, D.n1] at e; cases e) (fun q => by rw [q, D.n2] at e; cases e) (fun q => by have := D.st _ _ e; rw [q, D.m0] at this; cases this) (fun q => by rw [(D.fr.mem q).1] at e; cases e) (C.F.keep _ _ e), C.F.above⟩
  A1 := a1
  A2 := a2
  Mm := am
  fr := funs_mem (fun b hb o e => u b o hb e) C.fr
  keep := fun b o b1 b2 bf e => by
    have hb := Heap.lt_size e
    exact k b o (Nat.ne_of_lt hb) b1 b2 (fun q => by rw [q, D.m0] at e; cases e) bf (C.keep _ _ b1 b2 bf e)
  up := fun b o bf e => by
    obtain ⟨sl, q⟩ := C.up _ _ bf e
    obtain ⟨sl', q'⟩ := u _ _ bf q
    exact ⟨sl', q'⟩
end

theorem UNm.of {H₀ h : Heap} {L l1 l2 mm : Addr} {m : Str → Option Value} (_F : Fr H₀ L h m) (a : m (Str.ofString "expected") = some (.ref l1)) (b : m (Str.ofString "actual") = some (.ref l2)) (c : m (Str.ofString "missing") = some (.ref mm)) : UNm l1 l2 mm m := ⟨a, b, c⟩
theorem UNm.store {l1 l2 mm : Addr} {m : Str → Option Value} {v : Value} (c : UNm l1 l2 mm m) : UNm l1 l2 mm (fun z => if z = Str.ofString "item" then some v else m z) :=
  ⟨(if_neg (by decide)).trans c.e, (if_neg (by decide)).trans c.a, (if_neg (by decide)).trans c.m⟩

theorem unorder (w : World) {loose : List Str} {mg mb : Str → Option Value} (s : Shared) (outer : List Env) (base : Heap) (l1 l2 : Addr) (vs1 vs2 : List Value) (xs ys : List Str)
  (Q : Value → Shared → Prop)
  (X : (Mine.hd.heap_39 w.params).In base) (T : TopRead Mine.hd.view_39 loose mg mb base) (hst : base.StaysIn s.heap) (hbs : base.objs.size ≤ s.heap.objs.size) (hfun : s.heap.FunFrames base outer)
  (h1 : IsL s.heap l1 vs1) (h2 : IsL s.heap l2 vs2) (hx : StrsAre vs1 xs) (hy : StrsAre vs2 ys) (hlx : xs.length ≤ 14) (hly : ys.length ≤ 14)
  (f1 : l1 ∉ outer.filterMap (·.frame)) (f2 : l2 ∉ outer.filterMap (·.frame)) (n1 : base.get? l1 = none) (n2 : base.get? l2 = none) (hne : l1 ≠ l2)
  (hret : ∀ r mm ml aa h' tk', (∀ b o, b ≠ l1 → b ≠ l2 → b ∉ outer.filterMap (·.frame) → s.heap.get? b = some o → h'.get? b = some o) →
     (∀ b o, b ∈ outer.filterMap (·.frame) → s.heap.get? b = some o → ∃ sl, h'.get? b = some { o with slots := sl }) →
     (∃ e, h'.get? r = some { cls := .type "tuple", data := .seq #[.ref mm, .ref l2] e }) → IsL h' mm ml → IsL h' l2 aa → StrsAre ml (unord xs.reverse ys []).1 → StrsAre aa (unord xs.reverse ys []).2 → Q (.ref r) { s with heap := h', toks := tk' }) :
    wpAny (model PySem.Challenge.rw_il0132_01.row.prog w) (AF 440 outer) (call (.ref 78) [.ref l1, .ref l2]) Q NoE s := by
  have XS := X.keeps hst
  have TS := T.keeps hst
  revert XS; k_fill; intro XS
  refine wpAny_call ?_
  walk_at "MYENTERP"
  iterate 12 walk1
  rename_i mm h3 lmm h3' F N
  obtain ⟨hmm, hml, hm0⟩ := N _ (.head _)
  have D : UAp base s.heap outer l1 l2 mm := ⟨hst, hfun, n1, n2, hne, f1, f2, (let ⟨_, q⟩ := h1; ⟨_, q⟩), (let ⟨_, q⟩ := h2; ⟨_, q⟩), hml, hm0⟩
  have C0 : USt base s.heap outer l1 l2 mm vs1 vs2 [] _ h3' := ⟨⟨F.ns, fun b o e => F.keep _ _ (hst _ _ e), hbs⟩, h1.keep F.keep, h2.keep F.keep, ⟨_, hmm⟩, hfun.of_keeps fun b o e _ => ⟨o, F.keep _ _ e, rfl⟩, fun b o _ _ _ e => F.keep _ _ e, fun b o _ e => ⟨o.slots, F.keep _ _ e⟩⟩
  have M0 : UNm l1 l2 mm _ := UNm.of F (by (walk_at "MLOOK"; all_goals exact rfl)) (by (walk_at "MLOOK"; all_goals exact rfl)) (by walk_at "MLOOK")
  generalize (fun y => _ : Str → Option Value) = m0 at C0 M0
  clear F N hmm hml hm0 hst hfun n1 n2 hne f1 f2 XS TS h1 h2
  refine wpAny_While ?_
  refine while_go (fun n s' => n ≤ xs.length ∧ ∃ h tk m va vm as ms, s' = { s with heap := h, toks := tk } ∧ USt base s.heap outer l1 l2 mm (vs1.take n) va vm m h ∧ UNm l1 l2 mm m ∧ StrsAre va as ∧ StrsAre vm ms ∧ as.length ≤ 14 ∧ ms.length + n ≤ 14 ∧ unord xs.reverse ys [] = unord (xs.take n).reverse as ms) (fun n s' hI => ?_) xs.length ?_
  · obtain ⟨hn, h, tk, m, va, vm, as, ms, rfl, C, M, ha, hm, hal, hml, hu⟩ := hI
    have F := C.F
    have ge := M.e
    have ga := M.a
    have gm := M.m
    have hns := C.F.ns
    walk1
    walk1
    have hlen : (vs1.take n).length = n := by rw [List.length_take, hx.len_eq]; omega
    refine wpAny_truthy_list C.A1.list (by rw [List.size_toArray, hlen]; omega) ?_
    cases n with
    | zero =>
      rw [List.take_zero]
      rw [if_neg (by simp)]
      dsimp only
      iterate 9 walk1
      refine wpAny_newTuple ?_ (Nat.le_of_ble_eq_true rfl)
      dsimp only
      have kk : ∀ b o, h.get? b = some o → (h.push { cls := .type "tuple", data := .seq (Value.ref mm :: [Value.ref l2]).toArray }).get? b = some o := fun b o e => Heap.get?_push_of_some _ e
      refine hret _ mm vm va _ _ (fun b o b1 b2 bf e => kk _ _ (C.keep _ _ b1 b2 bf e)) (fun b o bf e => let ⟨sl, q⟩ := C.up _ _ bf e; ⟨sl, kk _ _ q⟩) ⟨_, Heap.get?_push_size _ rfl⟩ (C.Mm.keep kk) (C.A2.keep kk) ?_ ?_
      · rw [hu]; exact hm
      · rw [hu]; exact ha
    | succ n =>
      have hlt : n < vs1.length := by rw [hx.len_eq]; omega
      obtain ⟨x, hxn⟩ : ∃ x, xs[n]? = some x := ⟨_, List.getElem?_eq_getElem (by omega)⟩
      obtain ⟨tx, hvn⟩ := hx.at hxn
      have htk : vs1.take (n + 1) = vs1.take n ++ [.str x tx] := by rw [List.take_add_one, hvn]; rfl
      have hempty : (!(vs1.take (n + 1)).toArray.isEmpty) = true := by rw [htk]; simp
      rw [hempty, if_pos rfl]
      have hux : (xs.take (n + 1)).reverse = x :: (xs.take n).reverse := by rw [List.take_add_one, hxn]; simp
      rw [hux] at hu
      have A1 := C.A1
      rw [htk] at A1
      walk1
      walk1
      walk1
      walk1
      with_unfolding_all refine getMethod_list_of PySem.F.slot_list_pop PySem.F.type_list_pop A1.list A1.nodict ?_
      walk1
      refine pop_last A1 (by rw [List.length_take]; have : sizeLine = 2 ^ 24 := rfl; omega) fun h4 hs4 hA4 => ?_
      dsimp only
      have C4 : USt base s.heap outer l1 l2 mm (vs1.take n) va vm m h4 := C.go D (hns.at' fun o e => hs4.extBut _ _ (Ne.symm D.L1) e) hA4 (let ⟨e, q⟩ := C.A2; ⟨e, hs4.extBut _ _ (Ne.symm D.ne) q⟩) (let ⟨e, q⟩ := C.Mm; ⟨e, hs4.extBut _ _ D.m1 q⟩) (fun b o _ b1 _ _ _ e => hs4.extBut _ _ b1 e) (fun b o bf e => ⟨o.slots, hs4.extBut _ _ (fun q => D.f1 (q ▸ bf)) e⟩)
      refine wpAny_storeName_local rfl C4.F.ns (fun h5 hns5 hs5 => ?_) rfl
      have C5 : USt base s.heap outer l1 l2 mm (vs1.take n) va vm _ h5 := C4.go D hns5 (let ⟨e, q⟩ := C4.A1; ⟨e, hs5.extBut _ _ D.L1 q⟩) (let ⟨e, q⟩ := C4.A2; ⟨e, hs5.extBut _ _ D.L2 q⟩) (let ⟨e, q⟩ := C4.Mm; ⟨e, hs5.extBut _ _ D.ml q⟩) (fun b o b0 _ _ _ _ e => hs5.extBut _ _ b0 e) (fun b o bf e => ⟨o.slots, hs5.extBut _ _ (fun (q : b = s.heap.objs.size) => D.fL (q ▸ bf)) e⟩)
      have M5 := M.store (v := .str x tx)
      have gi : (fun z => if z = Str.ofString "item" then some (Value.str x tx) else m z) (Str.ofString "item") = some (.str x tx) := if_pos rfl
      clear C C4 hs4 hs5 hA4 A1 hempty F hns
      have F5 := C5.F
      have ge := M5.e
      have ga := M5.a
      have gm := M5.m
      dsimp only
      walk1
      refine wpAny_Try_except ?_
      walk1
      walk1
      walk1
      walk1
      walk1
      with_unfolding_all refine getMethod_list_of PySem.F.slot_list_remove PySem.F.type_list_remove C5.A2.list C5.A2.nodict ?_
      walk1
      walk1
      walk1
      walk1
      have hlal : va.length ≤ sizeLine := by rw [ha.len_eq]; have : sizeLine = 2 ^ 24 := rfl; omega
      by_cases hmem : x ∈ as
      · refine remove_hit C5.A2 ha hmem hlal fun h6 va' hs6 hA6 hS6 => ?_
        dsimp only
        have C6 : USt base s.heap outer l1 l2 mm (vs1.take n) va' vm _ h6 := C5.go D (C5.F.ns.at' fun o e => hs6.extBut _ _ (Ne.symm D.L2) e) (let ⟨e, q⟩ := C5.A1; ⟨e, hs6.extBut _ _ D.ne q⟩) hA6 (let ⟨e, q⟩ := C5.Mm; ⟨e, hs6.extBut _ _ D.m2 q⟩) (fun b o _ _ b2 _ _ e => hs6.extBut _ _ b2 e) (fun b o bf e => ⟨o.slots, hs6.extBut _ _ (fun q => D.f2 (q ▸ bf)) e⟩)
        refine wpAny_execs_nil ?_
        refine wpAny_execs_nil ?_
        refine wpAny_execs_nil ?_
        refine ⟨n, Nat.lt_succ_self _, by omega, h6, _, _, va', vm, as.erase x, ms, rfl, C6, M5, hS6, hm, Nat.le_trans List.length_erase_le hal, by omega, ?_⟩
        rw [hu]
        simp only [unord, if_pos hmem]
      · refine remove_miss rfl C5.A2 ha hmem fun h6 tk6 e hx6 => ?_
        dsimp only at hx6 ⊢
        have turn : ∀ h', Turned (s.heap.objs.size :: outer.filterMap (·.frame)) h5 h' → USt base s.heap outer l1 l2 mm (vs1.take n) va vm _ h' := fun h' ht => C5.go D (ht.ns C5.F.ns) (let ⟨e, q⟩ := C5.A1; ⟨e, ht.1 _ _ (nmc ⟨D.L1, D.f1⟩) q⟩) (let ⟨e, q⟩ := C5.A2; ⟨e, ht.1 _ _ (nmc ⟨D.L2, D.f2⟩) q⟩) (let ⟨e, q⟩ := C5.Mm; ⟨e, ht.1 _ _ (nmc ⟨D.ml, D.fm⟩) q⟩) (fun b o b0 _ _ _ bf e => ht.1 _ _ (nmc ⟨b0, bf⟩) e) (fun b o bf e => ht.2 _ _ (List.mem_cons_of_mem _ bf) e)
        refine caught_own (outer := outer) (L := s.heap.objs.size) (base := base) (h := h5) (X := "ValueError") (T := "ValueError") rfl rfl (.cons (fun q => nomatch q) rfl C5.F.ns (none_of_le hbs) C5.fr) hx6 PySem.F.isExc_ValueError PySem.F.notTuple_ValueError (by rw [isSubtype_type]; kernel_rfl) (fun h' Q' ht hq => ?_) (fun h' ht => ?_)
        · have C7 := turn h' ht
          have F7 := C7.F
          walk1
          exact hq
        · have C7 := turn h' ht
          clear turn C5 ht
          have F7 := C7.F
          have hns7 := C7.F.ns
          dsimp only
          iterate 4 walk1
          obtain ⟨eM, hMM⟩ := C7.Mm
          refine getMethod_list_append hMM rfl rfl ?_
          iterate 4 walk1
          refine append_at hMM (fun h8 hs8 hM8 => ?_) (by rw [List.size_toArray, hm.len_eq]; have : sizeLine = 2 ^ 24 := rfl; omega)
          dsimp only
          rw [List.push_toArray] at hM8
          have C8 : USt base s.heap outer l1 l2 mm (vs1.take n) va (vm ++ [.str x tx]) _ h8 := C7.go D (C7.F.ns.at' fun o e => hs8.extBut _ _ (Ne.symm D.ml) e) (let ⟨e, q⟩ := C7.A1; ⟨e, hs8.extBut _ _ (Ne.symm D.m1) q⟩) (let ⟨e, q⟩ := C7.A2; ⟨e, hs8.extBut _ _ (Ne.symm D.m2) q⟩) ⟨_, hM8⟩ (fun b o _ _ _ b3 _ e => hs8.extBut _ _ b3 e) (fun b o bf e => ⟨o.slots, hs8.extBut _ _ (fun q => D.fm (q ▸ bf)) e⟩)
          refine wpAny_execs_nil ?_
          dsimp only
          refine wpAny_execs_nil ?_
          refine ⟨n, Nat.lt_succ_self _, by omega, h8, _, _, va, vm ++ [.str x tx], as, ms ++ [x], rfl, C8, M5, ha, StrsAre.append' hm (.cons _ _ .nil), hal, by rw [List.length_append]; simp; omega, ?_⟩
          rw [hu]
          simp only [unord, if_neg hmem]
  · refine ⟨Nat.le_refl _, h3', _, m0, vs2, [], ys, [], rfl, ?_, M0, hy, .nil, hly, by simpa using hlx, ?_⟩
    · rw [List.take_of_length_le (by rw [hx.len_eq]; exact Nat.le_refl _)]; exact C0
    · rw [List.take_length]

end

section
section
local macro_rules | `(tactic| x_close) => `(tactic| (refine ⟨_, _, _, rfl, rfl, MMold (by assumption), (MMnew (by assumption)).1, (MMnew (by assumption)).2⟩))
theorem tuple_iter_mm (w : World) (s : Shared) (a : Addr) (d : Option Addr) (sl : Array (Option Value)) (v1 v2 v3 : Value) (n : Nat)
  (X : (Mine.hd.heap_39 w.params).In s.heap) (ha : s.heap.get? a = some ⟨.ref 149, d, .seq #[v1, v2, v3] n, sl⟩) :
    wpAny (model PySem.Challenge.rw_il0132_01.row.prog w) AB (call (.builtin "tuple.__iter__") [.ref a])
      (fun v s' => ∃ it h' tk', v = .ref it ∧ s' = { s with heap := h', toks := tk' } ∧ (∀ b o, s.heap.get? b = some o → h'.get? b = some o) ∧ s.heap.get? it = none ∧ h'.get? it = some ⟨.type "tuple_iterator", none, .fields #[.ref a, .int 0 0], #[]⟩) NoE s := by
  x_run
end

def Sq (h : Heap) (t : Addr) (items : Array Value) : Prop := ∃ o n, h.get? t = some o ∧ o.data = .seq items n
theorem Sq.keep {h h' : Heap} {t : Addr} {items : Array Value} (x : Sq h t items) (k : ∀ o, h.get? t = some o → h'.get? t = some o) : Sq h' t items := let ⟨o, n, e, r⟩ := x; ⟨o, n, k _ e, r⟩

section
variable {prog : Program} {w : World} {A : Around} {E : Value → Shared → Prop} {s : Shared}
theorem sq_next {t it : Addr} {items : Array Value} {i : Nat} {x : Value} {Q : Option Value → Shared → Prop} (hs : Sq s.heap t items) (hi : s.heap.IsTupleIter it t i) (hx : items[i]? = some x)
    (hQ : ∀ h', h'.IsTupleIter it t (i + 1) → Heap.SameBut it s.heap h' → Q (some x) { s with heap := h' }) : wpAny (model prog w) A (pyNext (.ref it)) Q E s := by
  obtain ⟨oi, hoi, hci, hdi⟩ := id hi
  obtain ⟨ot, nt, hot, hdt⟩ := hs
  unfold pyNext
  refine wpAny_bind (wpAny_attempt (wpAny_callSpecial?_slot (name := Str.ofString "__next__") hi.typeIs F.slot_tuple_iterator_next
    (wpAny_call_entry F.slot_tuple_iterator_next hi.typeIs F.entry_tuple_iterator_next ?_ (F.args_tuple_iterator_next_1 _))))
  show wpAny _ _ (field (.ref it) 0 >>= _) _ _ s
  refine wpAny_bind (wpAny_field hoi hdi (x := .ref t) rfl ?_)
  show wpAny _ _ (if (Value.ref t == Value.none) = true then _ else _) _ _ s
  rw [if_neg (show ¬ ((Value.ref t == Value.none) = true) from Bool.false_ne_true)]
  show wpAny _ _ (field (.ref it) 1 >>= _) _ _ s
  refine wpAny_bind (wpAny_field hoi hdi (x := .int i 0) rfl ?_)
  show wpAny _ _ (seqItems? (.ref t) >>= _) _ _ s
  refine wpAny_bind (wpAny_seqItems hot hdt ?_)
  simp only [Int.toNat_natCast, hx]
  refine wpAny_bind (wpAny_setField hoi hdi (by simp) (wpAny_pure ⟨x, rfl, wpAny_pure (hQ _ ?_ (Heap.SameBut.update ..))⟩))
  refine ⟨_, Heap.get?_update_self _ hoi (Obj.isFreed_of_fields (Obj.data_mapFields hdi _)), (Obj.cls_mapFields ..).trans hci, ?_⟩
  rw [Obj.data_mapFields hdi]
  simp [rawInt]

theorem sq_end {t it : Addr} {items : Array Value} {i : Nat} {Q : Option Value → Shared → Prop} (hh : A.handled = none) (hs : Sq s.heap t items) (hi : s.heap.IsTupleIter it t i) (hx : items[i]? = none)
    (hQ : ∀ h', Heap.ExtBut it s.heap h' → Q none { s with heap := h' }) : wpAny (model prog w) A (pyNext (.ref it)) Q E s := by
  obtain ⟨oi, hoi, hci, hdi⟩ := id hi
  obtain ⟨ot, nt, hot, hdt⟩ := hs
  unfold pyNext
  refine wpAny_bind (wpAny_attempt (wpAny_callSpecial?_slot (name := Str.ofString "__next__") hi.typeIs F.slot_tuple_iterator_next
    (wpAny_call_entry F.slot_tuple_iterator_next hi.typeIs F.entry_tuple_iterator_next ?_ (F.args_tuple_iterator_next_1 _))))
  show wpAny _ _ (field (.ref it) 0 >>= _) _ _ s
  refine wpAny_bind (wpAny_field hoi hdi (x := .ref t) rfl ?_)
  show wpAny _ _ (if (Value.ref t == Value.none) = true then _ else _) _ _ s
  rw [if_neg (show ¬ ((Value.ref t == Value.none) = true) from Bool.false_ne_true)]
  show wpAny _ _ (field (.ref it) 1 >>= _) _ _ s
  refine wpAny_bind (wpAny_field hoi hdi (x := .int i 0) rfl ?_)
  show wpAny _ _ (seqItems? (.ref t) >>= _) _ _ s
  refine wpAny_bind (wpAny_seqItems hot hdt ?_)
  simp only [Int.toNat_natCast, hx]
  refine wpAny_bind (wpAny_rule (wpAny_bind (wpAny_setField hoi hdi (by simp) ?_)))
  show wpAny _ _ (newExc (.type "StopIteration") [] >>= _) _ _ _
  refine wpAny_bind ?_
  simp only [newExc, newTuple]
  refine wpAny_bind (wpAny_newObj_type ?_ (by size_fits))
  refine wpAny_bind (m := firstArgMember _ _) (wpAny_of_eq (a := Value.none) (by first | rfl | (simp only [firstArgMember]; rfl)) ?_)
  refine wpAny_newObj_type ?_ (by size_fits)
  simp only [raiseNew]
  refine wpAny_bind (wpAny_handled ?_)
  first | rw [show A.in1.handled = none from hh] | rw [hh]
  refine wpAny_bind (wpAny_pure (wpAny_throw ?_))
  refine wpAny_bind (wpAny_isInstance (T := "StopIteration") (b := true) ⟨_, Heap.get?_push_size _ rfl, rfl⟩ isSubtype_stop ?_)
  exact wpAny_pure (hQ _ (((Heap.SameBut.update ..).extBut.push _).push _))

theorem mm_iter {K : Frag} {C a : Addr} {o : Obj} {Q : Value → Shared → Prop} (X : K.In s.heap) (ha : s.heap.get? a = some o) (hc : o.cls = .ref C) (ei : findIn K (.ref C) "__iter__" = some (some (.builtin "tuple.__iter__")))
    (hq : wpAny (model prog w) A (call (.builtin "tuple.__iter__") [.ref a]) (fun v s' => ∃ it, v = .ref it ∧ s'.TypeIs (.ref it) "tuple_iterator" ∧ Q (.ref it) s') E s) : wpAny (model prog w) A (pyIter (.ref a)) Q E s := by
  have L1 : ∀ M, Looks M s.heap (specialOf (.ref a) "__iter__") (some (.builtin "tuple.__iter__")) := fun M => by
    have t := (Looks.ld (M := M) (part := none) ha).andThen (f := fun o => pure o.cls) .now
    rw [hc] at t
    exact t.andThen (looks_findIn X ei)
  unfold pyIter
  refine wpAny_bind ((L1 _).here ?_)
  show wpAny _ A (callSpecialIfBoundUnlessNone? (.ref a) "__iter__" _ >>= _) Q E s
  refine wpAny_bind ?_
  simp only [callSpecialIfBoundUnlessNone?, bindSpecialIfBound?]
  refine wpAny_holding (wpAny_bind (wpAny_bind ((L1 _).here ?_)))
  simp only [F.slot_tuple_iter.bind]
  refine wpAny_bind (wpAny_askSetting (wpAny_ite ?_))
  have tail : ∀ (refuse : Sem Value) (P : Option Value → Shared → Prop), (∀ it s', s'.TypeIs (.ref it) "tuple_iterator" → Q (.ref it) s' → P (some (.ref it)) s') →
      wpAny (model prog w) A (if (Value.builtin "tuple.__iter__" == Value.none) = true then (refuse >>= fun v => pure (some v)) else (call (.builtin "tuple.__iter__") [.ref a] >>= fun v => pure (some v))) P E s := by
    intro refuse P hP
    simp only [builtin_beq_none, Bool.false_eq_true, if_false]
    refine wpAny_bind (wpAny_mono hq (fun v s' hv => ?_) fun _ _ z => z)
    obtain ⟨it, rfl, hT, hQ⟩ := hv
    exact wpAny_pure (hP it s' hT hQ)
  have after : ∀ it s', s'.TypeIs (.ref it) "tuple_iterator" → Q (.ref it) s' → wpAny (model prog w) A (specialOf (.ref it) "__next__") (fun r s' => ∃ g, r = some g ∧ Q (.ref it) s') E s' := fun it s' hT hQ =>
    wpAny_specialOf hT F.slot_tuple_iterator_next.lookup ⟨_, rfl, hQ⟩
  split
  · refine wpAny_bind (wpAny_pure (wpAny_pure (tail _ _ fun it s' hT hQ => ?_)))
    exact wpAny_bind (wpAny_specialOf hT F.slot_tuple_iterator_next.lookup (wpAny_pure hQ))
  · refine wpAny_tryCatch (wpAny_bind (wpAny_pure (wpAny_pure (tail _ _ fun it s' hT hQ => ?_))))
    exact wpAny_bind (wpAny_specialOf hT F.slot_tuple_iterator_next.lookup (wpAny_pure hQ))
end

section
variable {w : World} {A : Around} {s : Shared}
theorem mm_items {a : Addr} {d : Option Addr} {sl : Array (Option Value)} {v1 v2 v3 : Value} {n : Nat} {Q : List Value → Shared → Prop} (hh : A.handled = none) (hd : A.depth ≤ 600) (hu : A.units ≤ 600)
    (X : (Mine.hd.heap_39 w.params).In s.heap) (ha : s.heap.get? a = some ⟨.ref 149, d, .seq #[v1, v2, v3] n, sl⟩)
    (hQ : ∀ h' tk', (∀ b o, s.heap.get? b = some o → h'.get? b = some o) → Q [v1, v2, v3] { s with heap := h', toks := tk' }) :
    wpAny (model PySem.Challenge.rw_il0132_01.row.prog w) A (unpackItems (.ref a) 3 none) Q NoE s := by
  have ei : findIn (Mine.hd.heap_39 w.params) (.ref 149) "__iter__" = some (some (.builtin "tuple.__iter__")) := by rfl
  have L1 : ∀ M, Looks M s.heap (specialOf (.ref a) "__iter__") (some (.builtin "tuple.__iter__")) := fun M => by
    have t : Looks M s.heap (typeOf (.ref a)) (.ref 149) := (Looks.ld ha).andThen .now
    exact t.andThen (looks_findIn X ei)
  unfold unpackItems
  refine wpAny_bind ?_
  unfold notIterableAtAll
  refine wpAny_bind ((L1 _).here ?_)
  refine wpAny_pure ?_
  simp only [Bool.false_eq_true, if_false]
  refine wpAny_bind (wpAny_holding (mm_iter X ha rfl ei ?_))
  refine wpAny_mono (wp_AB hh hd hu (tuple_iter_mm w s a d sl v1 v2 v3 n X ha)) ?_ (fun _ _ z => z)
  rintro v s' ⟨it, h1, tk1, rfl, rfl, k1, f1, hit⟩
  refine ⟨it, rfl, ⟨_, hit, rfl⟩, ?_⟩
  have sq : Sq s.heap a #[v1, v2, v3] := ⟨_, _, ha, rfl⟩
  have hne : a ≠ it := fun q => by rw [q, f1] at ha; cases ha
  have sq1 : Sq h1 a #[v1, v2, v3] := sq.keep fun o e => k1 _ _ e
  refine wpAny_bind (wpAny_holding ?_)
  show wpAny _ _ (pyNext (.ref it) >>= _) _ _ _
  refine wpAny_bind (sq_next (i := 0) (x := v1) sq1 ⟨_, hit, rfl, rfl⟩ rfl fun h2 hi2 hs2 => ?_)
  have sq2 := sq1.keep fun o e => hs2.extBut _ _ hne e
  refine wpAny_bind (wpAny_holding ?_)
  show wpAny _ _ (pyNext (.ref it) >>= _) _ _ _
  refine wpAny_bind (sq_next (i := 1) (x := v2) sq2 hi2 rfl fun h3 hi3 hs3 => ?_)
  have sq3 := sq2.keep fun o e => hs3.extBut _ _ hne e
  refine wpAny_bind (wpAny_holding ?_)
  show wpAny _ _ (pyNext (.ref it) >>= _) _ _ _
  refine wpAny_bind (sq_next (i := 2) (x := v3) sq3 hi3 rfl fun h4 hi4 hs4 => ?_)
  have sq4 := sq3.keep fun o e => hs4.extBut _ _ hne e
  refine wpAny_bind (wpAny_holding ?_)
  show wpAny _ _ (pure []) _ _ _
  refine wpAny_pure (wpAny_pure (wpAny_pure (wpAny_pure ?_)))
  rw [if_neg (by simp)]
  refine wpAny_bind (wpAny_holding (sq_end hh sq4 hi4 rfl fun h5 he5 => ?_))
  simp only [Option.isSome_none, Bool.false_eq_true, if_false]
  refine wpAny_pure (hQ h5 _ fun b o e => ?_)
  have hb : b ≠ it := fun q => by rw [q, f1] at e; cases e
  exact he5 _ _ hb (hs4.extBut _ _ hb (hs3.extBut _ _ hb (hs2.extBut _ _ hb (k1 _ _ e))))
end

end

section
def addrsOf (vs : List Value) : List Addr := vs.filterMap fun v => match v with | .ref a => some a | _ => none
theorem Mms.keepA {h h' : Heap} : ∀ {vs es}, Mms h vs es → (∀ b ∈ addrsOf vs, ∀ o, h.get? b = some o → h'.get? b = some o) → Mms h' vs es
  | _, _, .nil, _ => .nil
  | _, _, .cons e r, k => .cons (k _ (List.mem_cons_self ..) _ e) (r.keepA fun b hb => k b (List.mem_cons_of_mem _ hb))
theorem Mms.at {h : Heap} {v : Value} : ∀ {vs es} {i : Nat}, Mms h vs es → vs[i]? = some v → ∃ a d e sl t1 t2 t3 c1 c2 x, v = .ref a ∧ es[i]? = some (c1, c2, x) ∧ h.get? a = some ⟨.ref 149, d, .seq #[.int (c1 : Nat) t1, .int (c2 : Nat) t2, .str x t3] e, sl⟩
  | _, _, 0, .cons e _, hv => by
    cases hv
    exact ⟨_, _, _, _, _, _, _, _, _, _, rfl, rfl, e⟩
  | _, _, i + 1, .cons _ r, hv => by
    obtain ⟨a, d, e, sl, t1, t2, t3, c1, c2, x, h1, h2, h3⟩ := r.at (i := i) hv
    exact ⟨a, d, e, sl, t1, t2, t3, c1, c2, x, h1, h2, h3⟩
theorem Mms.addr {h : Heap} : ∀ {vs es}, Mms h vs es → ∀ b ∈ addrsOf vs, ∃ o, h.get? b = some o
  | _, _, .nil, _, hb => nomatch hb
  | _, _, .cons e r, b, hb => by
    rcases List.mem_cons.mp hb with rfl | hb
    · exact ⟨_, e⟩
    · exact r.addr b hb
theorem In.keepD {K : Frag} {h h' : Heap} (x : K.In h) (k : ∀ b ∈ K.map (·.1), ∀ o, h.get? b = some o → h'.get? b = some o) : K.In h' := fun a o e => by
  refine k a ?_ o (x a o e)
  clear x k
  induction K with
  | nil => cases e
  | cons p r ih =>
    rw [List.lookup_cons] at e
    by_cases q : a == p.1
    · have : a = p.1 := by simpa using q
      rw [this]; exact List.mem_cons_self ..
    · simp only [q] at e
      exact List.mem_cons_of_mem _ (ih e)
theorem In.dom {K : Frag} {h : Heap} (x : K.In h) : ∀ b ∈ K.map (·.1), ∃ o, h.get? b = some o := fun b hb => by
  suffices q : ∃ o, K.lookup b = some o from let ⟨o, e⟩ := q; ⟨o, x _ _ e⟩
  clear x
  induction K with
  | nil => cases hb
  | cons p r ih =>
    rw [List.lookup_cons]
    by_cases q : b == p.1
    · simp [q]
    · simp only [q]
      rcases List.mem_cons.mp hb with e | hb
      · exact absurd (by simpa using e) q
      · exact ih hb

theorem letOwned_list {prog : Program} {w : World} {A : Around} {E : Value → Shared → Prop} {s : Shared} {I ax : Addr} {i : Nat} {ts : List Expr} {k : Nat} {pt : Pos} {v : Value} {Q : Unit → Shared → Prop} (hI : s.heap.IsListIter I ax i) (hQ : Q () s) :
    wpAny (model prog w) A (letOwnedTupleGo (.Tuple ts k pt) (.ref I) v) Q E s := by
  obtain ⟨o, ho, hc, hd⟩ := hI
  cases v with
  | ref a =>
    show wpAny _ _ (load I >>= _) _ _ _
    refine wpAny_bind (wpAny_load ho ?_)
    obtain ⟨c, d, dt, sl⟩ := o
    obtain rfl : c = .type "list_iterator" := hc
    obtain rfl : dt = _ := hd
    dsimp only
    rw [if_neg (by simp)]
    exact wpAny_pure hQ
  | _ => exact wpAny_pure hQ

section
variable {w : World} {A : Around}
theorem Src.mms (hh : A.handled = none) (hdp : A.depth ≤ 600) (hun : A.units ≤ 600) (I ax : Addr) (hne : ax ≠ I) (vs : List Value) (es : List (Nat × Nat × Str)) (hI1 : I ∉ addrsOf vs) (hI2 : I ∉ (Mine.hd.heap_39 w.params).map (·.1)) (x y z : Str) (px py pz pt : Pos) (k : Nat) :
    Src PySem.Challenge.rw_il0132_01.row.prog w A (.Tuple [.Name x px, .Name y py, .Name z pz] k pt) (.ref I) (I :: ax :: (addrsOf vs ++ (Mine.hd.heap_39 w.params).map (·.1))) [I] vs.toArray.size [x, y, z]
      (fun i m m' => ∃ (c1 c2 : Nat) (u : Str) (t1 t2 t3 : Tok), es[i]? = some (c1, c2, u) ∧ m' = fun q => if q = z then some (.str u t3) else if q = y then some (.int c2 t2) else if q = x then some (.int c1 t1) else m q)
      (fun i h => (h.IsListIter I ax i ∧ h.IsList ax vs.toArray) ∧ Mms h vs es ∧ (Mine.hd.heap_39 w.params).In h) where
  sub := fun b hb => by rw [List.mem_singleton.mp hb]; exact List.mem_cons_self ..
  live := fun i h st b hb => by
    rw [List.mem_singleton.mp hb]
    obtain ⟨o, e, _⟩ := st.1.1
    exact ⟨o, e⟩
  frame := fun i h h' st k => by
    refine ⟨⟨st.1.1.at (k _ (List.mem_cons_self ..)), st.1.2.at (k _ (List.mem_cons_of_mem _ (List.mem_cons_self ..)))⟩, st.2.1.keepA fun b hb => k b ?_, In.keepD st.2.2 fun b hb => k b ?_⟩
    · exact List.mem_cons_of_mem _ (List.mem_cons_of_mem _ (List.mem_append_left _ hb))
    · exact List.mem_cons_of_mem _ (List.mem_cons_of_mem _ (List.mem_append_right _ hb))
  step := fun i env m s fin Q hi hst hn hf hx hp hQ => by
    have W := Walks.list (prog := PySem.Challenge.rw_il0132_01.row.prog) (w := w) (A := A) hh I ax hne vs.toArray
    refine W.item i _ _ _ hi hst.1 fun v h1 tk1 hP hst1 hk1 => ?_
    have hk1' : ∀ b o, b ≠ I → s.heap.get? b = some o → h1.get? b = some o := fun b o hb e => hk1 b o (by simpa using hb) e
    have X1 : (Mine.hd.heap_39 w.params).In h1 := In.keepD hst.2.2 fun b hb o e => hk1' b o (fun q => hI2 (q ▸ hb)) e
    have M1 : Mms h1 vs es := hst.2.1.keepA fun b hb o e => hk1' b o (fun q => hI1 (q ▸ hb)) e
    rw [List.getElem?_toArray] at hP
    obtain ⟨a, d, e, sl, t1, t2, t3, c1, c2, u, rfl, hes, ha⟩ := M1.at hP
    show wpAny _ _ (letOwnedTupleGo (.Tuple [.Name x px, .Name y py, .Name z pz] k pt) (.ref I) (.ref a)) _ _ _
    refine letOwned_list hst1.1 ?_
    rw [assign_Tuple]
    refine wpAny_bind (wpAny_standAt ?_)
    unfold unpack
    refine wpAny_bind (wpAny_holding (mm_items hh hdp hun X1 ha fun h2 tk2 hk2 => ?_))
    dsimp only at hk2 ⊢
    have hLI : env.locals ≠ I := fun q => hf (by rw [q]; exact List.mem_cons_self ..)
    have hn2 := (hn.at' fun o e => hk1' _ o hLI e).at' fun o e => hk2 _ o e
    refine assignInOrder_cons (wpAny_assign_Name (wpAny_storeName_local (hx x (.head _)) hn2 (fun h₅ hn₅ hs₅ => ?_) hp))
    refine assignInOrder_cons (wpAny_assign_Name (wpAny_storeName_local (hx y (.tail _ (.head _))) hn₅ (fun h₆ hn₆ hs₆ => ?_) hp))
    refine assignInOrder_cons (wpAny_assign_Name (wpAny_storeName_local (hx z (.tail _ (.tail _ (.head _)))) hn₆ (fun h₇ hn₇ hs₇ => ?_) hp))
    refine assignInOrder_nil ?_
    have up : ∀ b o, b ≠ env.locals → h1.get? b = some o → h₇.get? b = some o := fun b o hb e => hs₇.extBut b o hb (hs₆.extBut b o hb (hs₅.extBut b o hb (hk2 b o e)))
    have fpL : ∀ b ∈ I :: ax :: (addrsOf vs ++ (Mine.hd.heap_39 w.params).map (·.1)), b ≠ env.locals := fun b hb q => hf (q ▸ hb)
    refine hQ h₇ _ _ ⟨c1, c2, u, t1, t2, t3, hes, rfl⟩ hn₇ ⟨⟨hst1.1.at fun o e => up _ _ (fpL _ (List.mem_cons_self ..)) e, hst1.2.at fun o e => up _ _ (fpL _ (List.mem_cons_of_mem _ (List.mem_cons_self ..))) e⟩,
      M1.keepA fun b hb o e => up _ _ (fpL _ (List.mem_cons_of_mem _ (List.mem_cons_of_mem _ (List.mem_append_left _ hb)))) e, In.keepD X1 fun b hb o e => up _ _ (fpL _ (List.mem_cons_of_mem _ (List.mem_cons_of_mem _ (List.mem_append_right _ hb)))) e⟩
      fun b o hb hbL e => up b o hbL (hk1 b o hb e)
  done := fun env s Q go hst hQ => (Walks.list (prog := PySem.Challenge.rw_il0132_01.row.prog) (w := w) (A := A) hh I ax hne vs.toArray).done _ _ _ hst.1 fun h' tk hk => hQ h' tk hk
  self := fun i s Q E hst hQ => (Walks.list (prog := PySem.Challenge.rw_il0132_01.row.prog) (w := w) (A := A) hh I ax hne vs.toArray).self i _ _ _ hst.1 hQ

variable {E : Value → Shared → Prop} {s s' : Shared} {env : Env} {h₀ : Heap} {L : Addr} {m : Str → Option Value} {news : List (Addr × Obj)}
variable {elt : Expr} {ifs : List Expr} {scope : Scope} {cl : List (Str × Addr)} {x y z : Str} {px py pz pt : Pos} {k : Nat} {J : CompJ} {R : CompJ → Nat → Prop}
theorem comp_mms {l : Addr} {vs : List Value} {es : List (Nat × Nat × Str)} (hh : A.handled = none) (hdp : A.depth ≤ 600) (hun : A.units ≤ 600) (kp : Kp s s') (hL : IsL s'.heap l vs) (hM : Mms s'.heap vs es) (X : (Mine.hd.heap_39 w.params).In s'.heap) (hsz : vs.length ≤ sizeLine) (hx : ∀ q ∈ [x, y, z], scope.names.lookup q = some .local)
    (hm : ∀ Z i ys h h', J Z i ys h → (∀ b o, ¬ Z b → h.get? b = some o → h'.get? b = some o) → J Z i ys h') (hJ0 : ∀ Z h, J Z 0 [] h)
    (turn : Turns PySem.Challenge.rw_il0132_01.row.prog w A h₀ m news env elt ifs scope cl s J vs.length (fun i m m' => ∃ (c1 c2 : Nat) (u : Str) (t1 t2 t3 : Tok), es[i]? = some (c1, c2, u) ∧ m' = fun q => if q = z then some (.str u t3) else if q = y then some (.int c2 t2) else if q = x then some (.int c1 t1) else m q)) (hR : R J vs.length) :
    wpAny (model PySem.Challenge.rw_il0132_01.row.prog w) A (pyIter (.ref l)) (fun it s₂ => ∃ J n, CompReady PySem.Challenge.rw_il0132_01.row.prog w A h₀ L m news env (.Tuple [.Name x px, .Name y py, .Name z pz] k pt) elt ifs scope cl s it s₂ J n ∧ R J n) E s' := by
  refine wpAny_pyIter_list hL.list ?_
  have hl := hL.size
  have hz : vs.toArray.size = vs.length := List.size_toArray
  have nI : ∀ b, b < s'.heap.objs.size → b ≠ s'.heap.objs.size := fun b hb => Nat.ne_of_lt hb
  have ad := hM.addr
  have dm := In.dom X
  have W := Src.mms (w := w) (A := A) hh hdp hun s'.heap.objs.size l (nI _ hl) vs es (fun q => let ⟨_, e⟩ := ad _ q; nI _ (Heap.lt_size e) rfl) (fun q => let ⟨_, e⟩ := dm _ q; nI _ (Heap.lt_size e) rfl) x y z px py pz pt k
  rw [hz] at W
  have hk : ∀ b o, s'.heap.get? b = some o → (s'.heap.push { cls := .type "list_iterator", data := .fields #[.ref l, .int 0 0] }).get? b = some o := fun b o e => Heap.get?_push_of_some _ e
  have st : (s'.heap.push { cls := .type "list_iterator", data := .fields #[.ref l, .int 0 0] }).IsListIter s'.heap.objs.size l 0 ∧ (s'.heap.push { cls := .type "list_iterator", data := .fields #[.ref l, .int 0 0] }).IsList l vs.toArray :=
    ⟨⟨_, Heap.get?_push_size _ rfl, rfl, rfl⟩, hL.list.at fun o e => hk _ _ e⟩
  refine ⟨J, vs.length, ⟨⟨_, _, _, _, _, W, hx, ⟨st, hM.keepA fun b _ o e => hk b o e, X.keeps hk⟩, ?_, ?_, turn⟩, kp.trans (Kp.heap hk), hsz, hm, hJ0⟩, hR⟩
  · intro b hb
    show b < (s'.heap.push _).objs.size
    rw [Heap.size_push]
    rcases List.mem_cons.mp hb with rfl | hb
    · exact Nat.lt_succ_self _
    · rcases List.mem_cons.mp hb with rfl | hb
      · exact Nat.lt_succ_of_lt hl
      · rcases List.mem_append.mp hb with hb | hb
        · obtain ⟨_, e⟩ := ad _ hb; exact Nat.lt_succ_of_lt (Heap.lt_size e)
        · obtain ⟨_, e⟩ := dm _ hb; exact Nat.lt_succ_of_lt (Heap.lt_size e)
  · intro b hb
    rw [List.mem_singleton.mp hb]
    exact kp.fresh (Nat.le_refl _)
end

end

section
inductive Tps (h : Heap) : List Value → List (Nat × Nat × Str) → Prop
  | nil : Tps h [] []
  | cons {a : Addr} {e : Nat} {t1 t2 t3 : Tok} {c1 c2 : Nat} {x : Str} {vs es} : h.get? a = some { cls := .type "tuple", data := .seq #[.int (c1 : Nat) t1, .int (c2 : Nat) t2, .str x t3] e } → Tps h vs es → Tps h (.ref a :: vs) ((c1, c2, x) :: es)
def IsTp (o : Obj) : Prop := o.cls = .type "tuple" ∧ ∃ xs n, o.data = .seq xs n
theorem Tps.keep {h h' : Heap} (k : ∀ b o, IsTp o → h.get? b = some o → h'.get? b = some o) : ∀ {vs es}, Tps h vs es → Tps h' vs es
  | _, _, .nil => .nil
  | _, _, .cons e r => .cons (k _ _ ⟨rfl, _, _, rfl⟩ e) (Tps.keep k r)
theorem Tps.keepA {h h' : Heap} : ∀ {vs es}, Tps h vs es → (∀ b ∈ addrsOf vs, ∀ o, h.get? b = some o → h'.get? b = some o) → Tps h' vs es
  | _, _, .nil, _ => .nil
  | _, _, .cons e r, k => .cons (k _ (List.mem_cons_self ..) _ e) (r.keepA fun b hb => k b (List.mem_cons_of_mem _ hb))
theorem Tps.addr {h : Heap} : ∀ {vs es}, Tps h vs es → ∀ b ∈ addrsOf vs, ∃ o, h.get? b = some o
  | _, _, .nil, _, hb => nomatch hb
  | _, _, .cons e r, b, hb => by
    rcases List.mem_cons.mp hb with rfl | hb
    · exact ⟨_, e⟩
    · exact r.addr b hb
theorem Tps.snoc {h : Heap} {a : Addr} {e : Nat} {t1 t2 t3 : Tok} {c1 c2 : Nat} {x : Str} (ha : h.get? a = some { cls := .type "tuple", data := .seq #[.int (c1 : Nat) t1, .int (c2 : Nat) t2, .str x t3] e }) : ∀ {vs es}, Tps h vs es → Tps h (vs ++ [.ref a]) (es ++ [(c1, c2, x)])
  | _, _, .nil => .cons ha .nil
  | _, _, .cons q r => .cons q (Tps.snoc ha r)
theorem Tps.len {h : Heap} : ∀ {vs es}, Tps h vs es → vs.length = es.length
  | _, _, .nil => rfl
  | _, _, .cons _ r => congrArg (· + 1) (Tps.len r)
theorem addrsOf_append (xs ys : List Value) : addrsOf (xs ++ ys) = addrsOf xs ++ addrsOf ys := List.filterMap_append ..

def td (e : Nat × Nat × Str) : PyData := .tuple [.int (e.1 : Nat), .int (e.2.1 : Nat), .str e.2.2]
theorem Tps.reads {h : Heap} : ∀ {vs es}, Tps h vs es → ∃ as, ReadsAll h vs (es.map td) as
  | _, _, .nil => ⟨_, .nil⟩
  | _, _, .cons e r => by
    obtain ⟨as, ra⟩ := r.reads
    exact ⟨_, .cons (.tuple e rfl rfl (.cons (.int _ _) (.cons (.int _ _) (.cons (.str _ _) .nil)))) ra⟩
theorem td_can : ∀ es : List (Nat × Nat × Str), (∀ e ∈ es, PyData.strOk e.2.2 = true) → PyData.canLayAll0 (es.map td) = true
  | [], _ => rfl
  | e :: r, h => by simp [PyData.canLayAll0, PyData.canLay0, td, td_can r fun x hx => h x (List.mem_cons_of_mem _ hx), h e (List.mem_cons_self ..)]
theorem td_depth : ∀ es : List (Nat × Nat × Str), PyData.depthAll (es.map td) ≤ 1
  | [] => by simp [PyData.depthAll]
  | _ :: r => by
    have := td_depth r
    simp [PyData.depthAll, PyData.depth, td]
    omega
theorem td_shaped (es : List (Nat × Nat × Str)) (hok : ∀ e ∈ es, PyData.strOk e.2.2 = true) : SeqAt.shaped (.list (es.map td)) = true := by
  have := td_depth es
  simp [SeqAt.shaped, PyData.canLay0, PyData.depth, td_can es hok]
  omega
theorem strs_can : ∀ zs : List Str, (∀ z ∈ zs, PyData.strOk z = true) → PyData.canLayAll0 (zs.map PyData.str) = true
  | [], _ => rfl
  | e :: r, h => by simp [PyData.canLayAll0, PyData.canLay0, strs_can r fun x hx => h x (List.mem_cons_of_mem _ hx), h e (List.mem_cons_self ..)]
theorem strs_depth : ∀ zs : List Str, PyData.depthAll (zs.map PyData.str) = 0
  | [] => by simp [PyData.depthAll]
  | _ :: r => by simp [PyData.depthAll, PyData.depth, strs_depth r]
theorem strs_shaped (zs : List Str) (hok : ∀ z ∈ zs, PyData.strOk z = true) : SeqAt.shaped (.list (zs.map PyData.str)) = true := by
  simp [SeqAt.shaped, PyData.canLay0, PyData.depth, strs_can zs hok, strs_depth]
theorem strs_reads {h : Heap} : ∀ {vs : List Value} {zs : List Str}, StrsAre vs zs → ReadsAll h vs (zs.map PyData.str) []
  | _, _, .nil => .nil
  | _, _, .cons _ t r => .cons (as := []) (.str _ t) (strs_reads r)

section
variable {prog : Program} {w : World} {A : Around} {E : Value → Shared → Prop} {s : Shared} {a b : Addr} {Q : Value → Shared → Prop}
theorem tps_ne {vs ws : List Value} {es : List (Nat × Nat × Str)} (ha : IsL s.heap a vs) (hb : IsL s.heap b ws) (ta : Tps s.heap vs es) (tb : Tps s.heap ws es) (hok : ∀ e ∈ es, PyData.strOk e.2.2 = true) (hu : A.units + 64 < cLine) (h : Q (.bool false) s) :
    wpAny (model prog w) A (compareOp .NotEq (.ref a) (.ref b)) Q E s := by
  obtain ⟨_, ra⟩ := ta.reads
  obtain ⟨_, rb⟩ := tb.reads
  obtain ⟨_, ha⟩ := ha
  obtain ⟨_, hb⟩ := hb
  refine ne_dataH (reads_list_at ha rfl rfl ra) (reads_list_at hb rfl rfl rb) (td_shaped es hok) (td_shaped es hok) hu ?_
  rw [SeqAt.eqv_refl _ (by rw [PyData.canLay0]; exact td_can es hok)]
  exact h
theorem strs_eq {vs ws : List Value} {zs : List Str} (ha : IsL s.heap a vs) (hb : IsL s.heap b ws) (ta : StrsAre vs zs) (tb : StrsAre ws zs) (hok : ∀ z ∈ zs, PyData.strOk z = true) (hu : A.units + 64 < cLine) (h : Q (.bool true) s) :
    wpAny (model prog w) A (compareOp .Eq (.ref a) (.ref b)) Q E s := by
  obtain ⟨_, ha⟩ := ha
  obtain ⟨_, hb⟩ := hb
  refine eq_dataH (reads_list_at ha rfl rfl (strs_reads ta)) (reads_list_at hb rfl rfl (strs_reads tb)) (strs_shaped zs hok) (strs_shaped zs hok) hu ?_
  rw [SeqAt.eqv_refl _ (by rw [PyData.canLay0]; exact strs_can zs hok)]
  exact h
theorem strs_ne {vs ws : List Value} {zs : List Str} (ha : IsL s.heap a vs) (hb : IsL s.heap b ws) (ta : StrsAre vs zs) (tb : StrsAre ws zs) (hok : ∀ z ∈ zs, PyData.strOk z = true) (hu : A.units + 64 < cLine) (h : Q (.bool false) s) :
    wpAny (model prog w) A (compareOp .NotEq (.ref a) (.ref b)) Q E s := by
  obtain ⟨_, ha⟩ := ha
  obtain ⟨_, hb⟩ := hb
  refine ne_dataH (reads_list_at ha rfl rfl (strs_reads ta)) (reads_list_at hb rfl rfl (strs_reads tb)) (strs_shaped zs hok) (strs_shaped zs hok) hu ?_
  rw [SeqAt.eqv_refl _ (by rw [PyData.canLay0]; exact strs_can zs hok)]
  exact h
end

end

section
local macro_rules | `(tactic| walk_at "PAD") => `(tactic| skip)
local macro_rules | `(tactic| walk_at "PAD") => `(tactic| skip)
local macro_rules | `(tactic| walk_at "PAD") => `(tactic| skip)
local macro_rules | `(tactic| walk_at "PAD") => `(tactic| skip)
local macro_rules | `(tactic| walk_at "PAD") => `(tactic| skip)
local macro_rules | `(tactic| walk_at "PAD") => `(tactic| skip)
local macro_rules | `(tactic| walk_at "eval Name") => `(tactic| ((with_reducible show wpAny _ _ (eval (Expr.Name _ _) (envOf _ _ _ _ _)) _ _ _); refine' wpAny_Name (wpAny_loadName_local rfl rfl ?hn ?hv ?_); (case hn => first | (with_reducible assumption) | assumption | exact Fr.ns (by assumption)); (case hv => walk_at "MLOOK")))

theorem emits_mem {α : Type} {l : List Str} {c : Str → Bool} {f : Str → α} {e : α} : ∀ i, e ∈ emits l c f i → ∃ x ∈ l, e = f x
  | 0, h => nomatch h
  | i + 1, h => by
    rw [emits] at h
    rcases List.mem_append.mp h with h | h
    · exact emits_mem i h
    · cases q : l[i]? with
      | none => rw [q] at h; cases h
      | some x =>
        rw [q] at h
        dsimp only at h
        split at h
        · exact ⟨x, List.mem_of_getElem? q, List.mem_singleton.mp h⟩
        · cases h
theorem unord_len : ∀ (e a m : List Str), (unord e a m).1.length ≤ e.length + m.length ∧ (unord e a m).2.length ≤ a.length
  | [], a, m => by simp [unord]
  | x :: r, a, m => by
    simp only [unord]
    split
    · have := unord_len r (a.erase x) m
      have h2 : (a.erase x).length ≤ a.length := List.length_erase_le
      simp only [List.length_cons]
      omega
    · have := unord_len r a (m ++ [x])
      rw [List.length_append] at this
      simp only [List.length_cons, List.length_nil] at this ⊢
      omega
theorem sorted_keep {prog : Program} {w : World} {A : Around} {E : Value → Shared → Prop} {s : Shared} {l : Addr} {vs : List Value} {ss : List Str} {Q : Value → Shared → Prop} (hl : IsL s.heap l vs) (hS : StrsAre vs ss) (h64 : vs.length < 64)
    (h : ∀ h' r vs' ss', (∀ b o, s.heap.get? b = some o → h'.get? b = some o) → IsL h' r vs' → StrsAre vs' ss' → ss'.Perm ss → sortedS ss' = true → Q (.ref r) { s with heap := h' }) :
    wpAny (model prog w) A (call (.builtin "sorted") [.ref l]) Q E s := by
  refine sorted_strs hl.list hS h64 fun out ss' a1 a2 a3 => ?_
  obtain ⟨e, he⟩ := sortedAll_at s.heap vs out
  refine h _ _ out.toList ss' (fun b o q => sortedAll_old q) ⟨e, ?_⟩ a1 a2 a3
  rw [Array.toArray_toList]; exact he
theorem unord_ok {e a : List Str} (h : ∀ x ∈ e ++ a, PyData.strOk x = true) : (∀ x ∈ (unord e.reverse a []).1, PyData.strOk x = true) ∧ ∀ x ∈ (unord e.reverse a []).2, PyData.strOk x = true := by
  constructor
  · intro x hx
    have := (unord_count x e.reverse a []).1
    have h0 := List.count_pos_iff.mpr hx
    simp only [List.count_nil, List.count_reverse] at this
    exact h x (List.mem_append_left _ (List.count_pos_iff.mp (by omega)))
  · intro x hx
    have := (unord_count x e.reverse a []).2
    have h0 := List.count_pos_iff.mpr hx
    exact h x (List.mem_append_right _ (List.count_pos_iff.mp (by omega)))
structure PAp (H : Heap) (R D S : Addr) : Prop where
  RL : R ≠ H.objs.size
  DL : D ≠ H.objs.size
  SL : S ≠ H.objs.size
  RD : R ≠ D
  RS : R ≠ S
  DS : D ≠ S
  R0 : H.get? R = none
  D0 : H.get? D = none
  S0 : H.get? S = none
structure PSt (H : Heap) (R D S : Addr) (lr ds sv : List Value) (es : List (Nat × Nat × Str)) (m : Str → Option Value) (h : Heap) : Prop where
  F : Fr H H.objs.size h m
  R : IsL h R lr
  D : IsL h D ds
  S : IsL h S sv
  T : Tps h ds es
structure PNm (l1 l2 l3 l4 D S : Addr) (m : Str → Option Value) : Prop where
  n1 : m (Str.ofString "left") = some (.ref l1)
  n2 : m (Str.ofString "right") = some (.ref l2)
  n3 : m (Str.ofString "mine") = some (.ref l3)
  n4 : m (Str.ofString "yours") = some (.ref l4)
  n5 : m (Str.ofString "due") = some (.ref D)
  n6 : m (Str.ofString "seen") = some (.ref S)
theorem PNm.of {H₀ h : Heap} {L l1 l2 l3 l4 D S : Addr} {m : Str → Option Value} (_F : Fr H₀ L h m) (a : m (Str.ofString "left") = some (.ref l1)) (b : m (Str.ofString "right") = some (.ref l2)) (c : m (Str.ofString "mine") = some (.ref l3))
    (d : m (Str.ofString "yours") = some (.ref l4)) (e : m (Str.ofString "due") = some (.ref D)) (f : m (Str.ofString "seen") = some (.ref S)) : PNm l1 l2 l3 l4 D S m := ⟨a, b, c, d, e, f⟩
theorem PNm.store {l1 l2 l3 l4 D S : Addr} {m : Str → Option Value} {v : Value} (c : PNm l1 l2 l3 l4 D S m) : PNm l1 l2 l3 l4 D S (fun z => if z = Str.ofString "x" then some v else m z) :=
  ⟨(if_neg (by decide)).trans c.n1, (if_neg (by decide)).trans c.n2, (if_neg (by decide)).trans c.n3, (if_neg (by decide)).trans c.n4, (if_neg (by decide)).trans c.n5, (if_neg (by decide)).trans c.n6⟩
section
variable {H h h' : Heap} {R D S : Addr} {lr ds sv ds' sv' : List Value} {es es' : List (Nat × Nat × Str)} {m m' : Str → Option Value}
theorem PSt.tk (A : PAp H R D S) (c : PSt H R D S lr ds sv es m h) (k : ∀ b o, b ≠ H.objs.size → b ≠ D → b ≠ S → Stays H b o → h.get? b = some o → h'.get? b = some o) : Tps h' ds es :=
  c.T.keep fun b o ho e => by
    refine k b o ?_ ?_ ?_ (.inl ho.2) e
    · rintro rfl
      obtain ⟨oL, _, _, hoL, hd, _⟩ := c.F.ns
      rw [hoL] at e; cases e
      obtain ⟨_, _, _, q⟩ := ho
      rw [hd] at q; cases q
    · rintro rfl
      obtain ⟨_, q⟩ := c.D
      rw [q] at e; cases e
      have q2 : Value.type "list" = Value.type "tuple" := ho.1
      exact absurd q2 (by decide)
    · rintro rfl
      obtain ⟨_, q⟩ := c.S
      rw [q] at e; cases e
      have q2 : Value.type "list" = Value.type "tuple" := ho.1
      exact absurd q2 (by decide)
theorem PSt.go (A : PAp H R D S) (c : PSt H R D S lr ds sv es m h) (hn : h'.Ns H.objs.size m') (hD : IsL h' D ds') (hS : IsL h' S sv') (hT : Tps h' ds' es')
    (k : ∀ b o, b ≠ H.objs.size → b ≠ D → b ≠ S → Stays H b o → h.get? b = some o → h'.get? b = some o) : PSt H R D S lr ds' sv' es' m' h' where
  F := ⟨hn, fun b o e => k b o (Nat.ne_of_lt (Heap.lt_size e)) (fun q => by rw [q, A.D0] at e; cases e) (fun q => by rw [q, A.S0] at e; cases e) (.inr (.inr e)) (c.F.keep _ _ e), c.F.above⟩
  R := let ⟨e, q⟩ := c.R; ⟨e, k _ _ A.RL A.RD A.RS (.inl ⟨_, _, rfl⟩) q⟩
  D := hD
  S := hS
  T := hT
theorem PSt.move (A : PAp H R D S) (c : PSt H R D S lr ds sv es m h) (hn : h'.Ns H.objs.size m') (k : ∀ b o, b ≠ H.objs.size → Stays H b o → h.get? b = some o → h'.get? b = some o) : PSt H R D S lr ds sv es m' h' :=
  c.go A hn (let ⟨e, q⟩ := c.D; ⟨e, k _ _ A.DL (.inl ⟨_, _, rfl⟩) q⟩) (let ⟨e, q⟩ := c.S; ⟨e, k _ _ A.SL (.inl ⟨_, _, rfl⟩) q⟩) (c.tk A fun b o b1 _ _ st e => k b o b1 st e) fun b o b1 _ _ st e => k b o b1 st e
end

theorem law_pair (w : World) {loose : List Str} {mg mb : Str → Option Value} (s : Shared) (outer : List Env) (base : Heap) (l1 l2 l3 l4 : Addr) (v1 v2 v3 v4 : List Value) (x1 x2 x3 x4 : List Str)
  (Q : Value → Shared → Prop)
  (X : (Mine.hd.heap_39 w.params).In base) (T : TopRead Mine.hd.view_39 loose mg mb base) (hst : base.StaysIn s.heap) (hbs : base.objs.size ≤ s.heap.objs.size) (hfun : s.heap.FunFrames base outer)
  (h1 : IsL base l1 v1) (h2 : IsL base l2 v2) (hb3 : IsL base l3 v3) (hb4 : IsL base l4 v4) (hx1 : StrsAre v1 x1) (hx2 : StrsAre v2 x2) (hx3 : StrsAre v3 x3) (hx4 : StrsAre v4 x4)
  (hl1 : x1.length ≤ 14) (hl2 : x2.length ≤ 14) (hl3 : x3.length ≤ 14) (hl4 : x4.length ≤ 14)
  (hok : ∀ x ∈ x1 ++ x2, PyData.strOk x = true)
  (hc : ∀ x, x1.count x + x4.count x = x2.count x + x3.count x)
  (hret : ∀ h' tk', (∀ b o, b ∉ outer.filterMap (·.frame) → s.heap.get? b = some o → h'.get? b = some o) →
     (∀ b o, b ∈ outer.filterMap (·.frame) → s.heap.get? b = some o → ∃ sl, h'.get? b = some { o with slots := sl }) → Q (.bool true) { s with heap := h', toks := tk' }) :
    wpAny (model PySem.Challenge.rw_il0132_01.row.prog w) (AF 401 outer) (call (.ref 169) [.ref l1, .ref l2, .ref l3, .ref l4]) Q NoE s := by
  have XS := X.keeps hst
  have TS := T.keeps hst
  have g1 := h1.keep hst
  have g2 := h2.keep hst
  have g3 := hb3.keep hst
  have g4 := hb4.keep hst
  have g1l := g1.list
  have g2l := g2.list
  have g3l := g3.list
  have g4l := g4.list
  revert XS; k_fill; intro XS
  refine wpAny_call ?_
  walk_at "MYENTERP"
  iterate 16 walk1
  rename_i DU hA lA hB tkB SE hC lSE h3' F N
  refine wpAny_For ?_
  iterate 3 walk1
  have lS3 := Heap.lt_size (N _ (.head _)).1
  have lD3 := Heap.lt_size (N _ (.tail _ (.head _))).1
  refine add_lists F N (g1.keep F.keep).list (g2.keep F.keep).list ?_ (by rw [hx1.len_eq, hx2.len_eq]; have : sizeLine = 2 ^ 24 := rfl; omega)
  intro h4 F N
  obtain ⟨hR, hRL, hR0⟩ := N _ (.head _)
  obtain ⟨hS, hSL, hS0⟩ := N _ (.tail _ (.head _))
  obtain ⟨hD, hDL, hD0⟩ := N _ (.tail _ (.tail _ (.head _)))
  dsimp only at hR hRL hR0 hS hSL hS0 hD hDL hD0 ⊢
  have AP : PAp s.heap h3'.objs.size DU SE := ⟨hRL, hDL, hSL, Ne.symm (Nat.ne_of_lt lD3), Ne.symm (Nat.ne_of_lt lS3), Nat.ne_of_lt lSE, hR0, hD0, hS0⟩
  have C0 : PSt s.heap h3'.objs.size DU SE (v1 ++ v2) [] [] [] _ h4 := ⟨F, ⟨_, hR⟩, ⟨_, hD⟩, ⟨_, hS⟩, .nil⟩
  have M0 := PNm.of (l1 := l1) (l2 := l2) (l3 := l3) (l4 := l4) (D := DU) (S := SE) F (by (walk_at "MLOOK"; all_goals exact rfl)) (by (walk_at "MLOOK"; all_goals exact rfl)) (by (walk_at "MLOOK"; all_goals exact rfl)) (by (walk_at "MLOOK"; all_goals exact rfl)) (by walk_at "MLOOK") (by walk_at "MLOOK")
  generalize (fun y => _ : Str → Option Value) = mm at C0 M0
  generalize h3'.objs.size = R at *
  clear F N hR hRL hR0 hS hSL hS0 hD hDL hD0 lS3 lD3 lSE XS TS
  have hlr : StrsAre (v1 ++ v2) (x1 ++ x2) := StrsAre.append' hx1 hx2
  have hLR : (v1 ++ v2).length = x1.length + x2.length := by rw [hlr.len_eq, List.length_append]
  refine wpAny_pyIter_list C0.R.list ?_
  dsimp only
  have hI0 : s.heap.get? h4.objs.size = none := none_of_le (Nat.le_of_lt C0.F.ns.lt)
  have hL4 : s.heap.objs.size < h4.objs.size := C0.F.ns.lt
  have hR4 := C0.R.size
  have hD4 := C0.D.size
  have hS4 := C0.S.size
  have hk4 : ∀ b o, h4.get? b = some o → (h4.push { cls := .type "list_iterator", data := .fields #[.ref R, .int 0 0] }).get? b = some o := fun b o e => Heap.get?_push_of_some _ e
  refine for_go (x1.length + x2.length) (fun k s' => ∃ h tk m ds sv, s' = { s with heap := h, toks := tk } ∧ PSt s.heap R DU SE (v1 ++ v2) ds sv (emits (x1 ++ x2) (fun x => x3.count x != x4.count x) (fun x => (x1.count x, x2.count x, x)) k) m h ∧
    StrsAre sv ((x1 ++ x2).take k) ∧ PNm l1 l2 l3 l4 DU SE m ∧ h.IsListIter h4.objs.size R k) (fun _ => True) ?_ ?_ ?_
  · rintro k s' hkx ⟨h, tk, m, ds, sv, rfl, C, hsv, M, hI⟩
    refine' (Src.list (prog := PySem.Challenge.rw_il0132_01.row.prog) (w := w) ?hh h4.objs.size R ?hne (v1 ++ v2).toArray (Str.ofString "x") _).step k _ m _ _ _ ?a1 ?a2 ?a3 ?a4 ?a5 ?a6 ?a7
    case hh => rfl
    case hne => exact Nat.ne_of_lt hR4
    case a1 => rw [List.size_toArray, hLR]; exact hkx
    case a2 => exact ⟨hI, C.R.list⟩
    case a3 => exact C.F.ns
    case a4 => intro hz; simp only [List.mem_cons, List.not_mem_nil, or_false] at hz; rcases hz with hz | hz; exact Nat.ne_of_lt hL4 hz; exact AP.RL hz.symm
    case a5 => intro z hz; simp only [List.mem_cons, List.not_mem_nil, or_false] at hz; subst hz; rfl
    case a6 => rfl
    intro h₂ tk₂ m₂ hV hns₂ hst₂ hk'
    obtain ⟨v, hv, rfl⟩ := hV
    obtain ⟨y, hy⟩ : ∃ y, (x1 ++ x2)[k]? = some y := ⟨_, List.getElem?_eq_getElem (by rw [List.length_append]; exact hkx)⟩
    obtain ⟨ty, hvy⟩ := hlr.at hy
    rw [List.getElem?_toArray, hvy] at hv
    cases hv
    have C2 := C.move AP hns₂ fun b o b1 st q => hk' _ _ (by simp [stays_ne_iter hI hI0 st q]) b1 q
    have M2 := M.store (v := .str y ty)
    have hI2 := hst₂.1
    have F2 := C2.F
    have gx : (fun z => if z = Str.ofString "x" then some (Value.str y ty) else m z) (Str.ofString "x") = some (.str y ty) := if_pos rfl
    have n1 := M2.n1
    have n2 := M2.n2
    have n3 := M2.n3
    have n4 := M2.n4
    have n5 := M2.n5
    have n6 := M2.n6
    have htk : (x1 ++ x2).take (k + 1) = (x1 ++ x2).take k ++ [y] := by rw [List.take_add_one, hy]; rfl
    clear C hk' hst₂ hI M C0 M0
    dsimp only
    iterate 6 walk1
    refine notin_list_strs C2.S.list hsv ?_
    by_cases hmem : y ∈ (x1 ++ x2).take k
    · rw [show (!((x1 ++ x2).take k).any (· == y)) = false by simpa using hmem]
      iterate 8 walk1
      have ee : emits (x1 ++ x2) (fun x => x3.count x != x4.count x) (fun x => (x1.count x, x2.count x, x)) (k + 1) = emits (x1 ++ x2) (fun x => x3.count x != x4.count x) (fun x => (x1.count x, x2.count x, x)) k := by
        simp only [emits, hy]
        rw [if_neg (fun q => q.1 hmem), List.append_nil]
      obtain ⟨eS, hSS⟩ := C2.S
      refine getMethod_list_append hSS rfl rfl ?_
      iterate 4 walk1
      refine append_at hSS (fun h8 hs8 hS8 => ?_) (by rw [List.size_toArray, hsv.len_eq, List.length_take]; have : sizeLine = 2 ^ 24 := rfl; omega)
      refine wpAny_execs_nil ?_
      rw [List.push_toArray] at hS8
      refine ⟨h8, _, _, ds, sv ++ [.str y ty], rfl, ?_, ?_, M2, hI2.at fun o e => hs8.extBut _ _ (Ne.symm (Nat.ne_of_lt hS4)) e⟩
      · rw [ee]
        exact C2.go AP (C2.F.ns.at' fun o e => hs8.extBut _ _ (Ne.symm AP.SL) e) (let ⟨e, q⟩ := C2.D; ⟨e, hs8.extBut _ _ AP.DS q⟩) ⟨_, hS8⟩ (C2.tk AP fun b o _ _ b3 _ e => hs8.extBut _ _ b3 e) fun b o _ _ b3 _ e => hs8.extBut _ _ b3 e
      · rw [htk]; exact StrsAre.append' hsv (.cons _ _ .nil)
    · rw [show (!((x1 ++ x2).take k).any (· == y)) = true by simp only [Bool.not_eq_true', List.any_eq_false, beq_iff_eq]; exact fun x hx q => hmem (q ▸ hx)]
      iterate 21 walk1
      by_cases hcnt : x3.count y = x4.count y
      · rw [hcnt, show (((x4.count y : Nat) : Int) != ((x4.count y : Nat) : Int)) = false from bne_self_eq_false _]
        iterate 9 walk1
        have ee : emits (x1 ++ x2) (fun x => x3.count x != x4.count x) (fun x => (x1.count x, x2.count x, x)) (k + 1) = emits (x1 ++ x2) (fun x => x3.count x != x4.count x) (fun x => (x1.count x, x2.count x, x)) k := by
          simp only [emits, hy]
          rw [if_neg (fun q => by simp [hcnt] at q), List.append_nil]
        obtain ⟨eS, hSS⟩ := C2.S
        refine getMethod_list_append hSS rfl rfl ?_
        iterate 4 walk1
        refine append_at hSS (fun h8 hs8 hS8 => ?_) (by rw [List.size_toArray, hsv.len_eq, List.length_take]; have : sizeLine = 2 ^ 24 := rfl; omega)
        refine wpAny_execs_nil ?_
        rw [List.push_toArray] at hS8
        refine ⟨h8, _, _, ds, sv ++ [.str y ty], rfl, ?_, ?_, M2, hI2.at fun o e => hs8.extBut _ _ (Ne.symm (Nat.ne_of_lt hS4)) e⟩
        · rw [ee]
          exact C2.go AP (C2.F.ns.at' fun o e => hs8.extBut _ _ (Ne.symm AP.SL) e) (let ⟨e, q⟩ := C2.D; ⟨e, hs8.extBut _ _ AP.DS q⟩) ⟨_, hS8⟩ (C2.tk AP fun b o _ _ b3 _ e => hs8.extBut _ _ b3 e) fun b o _ _ b3 _ e => hs8.extBut _ _ b3 e
        · rw [htk]; exact StrsAre.append' hsv (.cons _ _ .nil)
      · rw [show (((x3.count y : Nat) : Int) != ((x4.count y : Nat) : Int)) = true from bne_iff_ne.mpr (by omega)]
        iterate 9 walk1
        obtain ⟨eD, hDD⟩ := C2.D
        refine getMethod_list_append hDD rfl rfl ?_
        iterate 24 walk1
        refine wpAny_newTuple ?_ (Nat.le_of_ble_eq_true rfl)
        dsimp only
        generalize hH9 : h₂.push { cls := .type "tuple", data := .seq (Value.int (x1.count y : Nat) _ :: [Value.int (x2.count y : Nat) _, Value.str y ty]).toArray } = h9
        have k9 : ∀ b o, h₂.get? b = some o → h9.get? b = some o := fun b o e => hH9 ▸ Heap.get?_push_of_some _ e
        have ht9 : h9.get? h₂.objs.size = some { cls := .type "tuple", data := .seq _ } := hH9 ▸ Heap.get?_push_size _ rfl
        have C9 := C2.move AP (C2.F.ns.keeps k9) (fun b o _ _ e => k9 b o e)
        have hI9 : h9.IsListIter h4.objs.size R (k + 1) := hI2.at fun o e => k9 _ _ e
        have nD9 : h₂.objs.size ≠ DU := Ne.symm (Nat.ne_of_lt C2.D.size)
        have nS9 : h₂.objs.size ≠ SE := Ne.symm (Nat.ne_of_lt C2.S.size)
        walk1
        obtain ⟨eD9, hD9⟩ := C9.D
        refine append_at hD9 (fun hA hsA hDA => ?_) (by rw [List.size_toArray, C9.T.len]; exact Nat.le_trans (emits_len _ _ _ _) (by have : sizeLine = 2 ^ 24 := rfl; omega))
        rw [List.push_toArray] at hDA
        have CA : PSt s.heap R DU SE (v1 ++ v2) (ds ++ [.ref h₂.objs.size]) sv (emits (x1 ++ x2) (fun x => x3.count x != x4.count x) (fun x => (x1.count x, x2.count x, x)) k ++ [(x1.count y, x2.count y, y)]) _ hA :=
          C9.go AP (C9.F.ns.at' fun o e => hsA.extBut _ _ (Ne.symm AP.DL) e) ⟨_, hDA⟩ (let ⟨e, q⟩ := C9.S; ⟨e, hsA.extBut _ _ (Ne.symm AP.DS) q⟩) ((C9.tk AP fun b o _ b2 _ _ e => hsA.extBut _ _ b2 e).snoc (hsA.extBut _ _ nD9 ht9)) fun b o _ b2 _ _ e => hsA.extBut _ _ b2 e
        have hIA : hA.IsListIter h4.objs.size R (k + 1) := hI9.at fun o e => hsA.extBut _ _ (Ne.symm (Nat.ne_of_lt hD4)) e
        have FA := CA.F
        have hnsA := CA.F.ns
        clear C2 C9 F2 hns₂
        dsimp only
        iterate 5 walk1
        have ee : emits (x1 ++ x2) (fun x => x3.count x != x4.count x) (fun x => (x1.count x, x2.count x, x)) (k + 1) = emits (x1 ++ x2) (fun x => x3.count x != x4.count x) (fun x => (x1.count x, x2.count x, x)) k ++ [(x1.count y, x2.count y, y)] := by
          simp only [emits, hy]
          rw [if_pos ⟨hmem, bne_iff_ne.mpr hcnt⟩]
        obtain ⟨eS, hSS⟩ := CA.S
        refine getMethod_list_append hSS rfl rfl ?_
        iterate 4 walk1
        refine append_at hSS (fun h8 hs8 hS8 => ?_) (by rw [List.size_toArray, hsv.len_eq, List.length_take]; have : sizeLine = 2 ^ 24 := rfl; omega)
        refine wpAny_execs_nil ?_
        rw [List.push_toArray] at hS8
        refine ⟨h8, _, _, ds ++ [.ref h₂.objs.size], sv ++ [.str y ty], rfl, ?_, ?_, M2, hIA.at fun o e => hs8.extBut _ _ (Ne.symm (Nat.ne_of_lt hS4)) e⟩
        · rw [ee]
          exact CA.go AP (CA.F.ns.at' fun o e => hs8.extBut _ _ (Ne.symm AP.SL) e) (let ⟨e, q⟩ := CA.D; ⟨e, hs8.extBut _ _ AP.DS q⟩) ⟨_, hS8⟩ (CA.tk AP fun b o _ _ b3 _ e => hs8.extBut _ _ b3 e) fun b o _ _ b3 _ e => hs8.extBut _ _ b3 e
        · rw [htk]; exact StrsAre.append' hsv (.cons _ _ .nil)
  · rintro s' ⟨h, tk, m, ds, sv, rfl, C, hsv, M, hI⟩
    refine' (Src.list (prog := PySem.Challenge.rw_il0132_01.row.prog) (w := w) ?hh h4.objs.size R ?hne (v1 ++ v2).toArray (Str.ofString "x") _).done _ _ _ _ ?a1 ?a2
    case hh => rfl
    case hne => exact Nat.ne_of_lt hR4
    case a1 =>
      have hsz : (v1 ++ v2).toArray.size = x1.length + x2.length := by rw [List.size_toArray, hLR]
      rw [hsz]; exact ⟨hI, C.R.list⟩
    intro h₂ tk₂ hk'
    have hns₂ : h₂.Ns s.heap.objs.size m := C.F.ns.at' fun o e => hk' _ _ (by simpa using Nat.ne_of_lt hL4) e
    have C2 := C.move AP hns₂ fun b o b1 st q => hk' _ _ (by simp [stays_ne_iter hI hI0 st q]) q
    have F2 := C2.F
    clear C hk' hI
    have N2 : News s.heap s.heap.objs.size h₂ [] := News.nil
    have XS := X.keeps hst
    have TS := T.keeps hst
    have n1 := M.n1
    have n2 := M.n2
    dsimp only
    iterate 3 walk1
    refine compS_eval F2 N2 rfl (by decide) rfl (by decide) ?_
    iterate 8 walk1
    refine ⟨XS.keeps F2.keep, ?_⟩
    refine wp_noE ?_
    refine wp_AN (n := 450) rfl (Nat.le_of_ble_eq_true rfl) (Nat.le_of_ble_eq_true rfl) ?_
    refine count_diff w (loose := loose) (mg := mg) (mb := mb) _ l1 l2 v1 v2 x1 x2 _ (XS.keeps F2.keep) (TS.keeps F2.keep) (g1.keep F2.keep) (g2.keep F2.keep) hx1 hx2 hl1 hl2 fun r rs h3 tk3 hk3 hr3 hL3 hm3 => ?_
    dsimp only at hk3 hr3 ⊢
    have hrl : rs.length ≤ sizeLine := by rw [hm3.len]; exact Nat.le_trans (emits_len _ _ _ _) (by have : sizeLine = 2 ^ 24 := rfl; omega)
    have hlen : (emits (x1 ++ x2) (fun x => x1.count x != x2.count x) (fun x => (x1.count x, x2.count x, x)) (x1.length + x2.length)).length = rs.length := hm3.len.symm
    generalize hes : emits (x1 ++ x2) (fun x => x1.count x != x2.count x) (fun x => (x1.count x, x2.count x, x)) (x1.length + x2.length) = es at hm3 hlen
    refine comp_mms (es := es) (J := fun Z i zs h => (∀ b ∈ addrsOf zs, ¬ Z b) ∧ Tps h zs (es.take i)) rfl (Nat.le_of_ble_eq_true rfl) (Nat.le_of_ble_eq_true rfl) (Kp.mk hk3) hL3 hm3 ((XS.keeps F2.keep).keeps hk3) hrl (by decide) (fun Z i ys h h' hJ hk => ⟨hJ.1, hJ.2.keepA fun b hb o e => hk b o (hJ.1 b hb) e⟩) (fun _ _ => ⟨fun _ hb => (nomatch hb), .nil⟩) ?_ ?_
    · intro Z i zs C h tk m₁ m' hi hJ hyl ⟨c1, c2, u, t1, t2, t3, hei, hm'⟩ F N hkeep hlive
      subst hm'
      refine CompTurnOk.plain ?_
      iterate 8 walk1
      refine wpAny_newTuple ?_ (Nat.le_of_ble_eq_true rfl)
      dsimp only
      have kk : ∀ b o, h.get? b = some o → (h.push { cls := .type "tuple", data := .seq (Value.int (c1 : Nat) t1 :: [Value.int (c2 : Nat) t2, Value.str u t3]).toArray }).get? b = some o := fun b o e => Heap.get?_push_of_some _ e
      have hti : es.take (i + 1) = es.take i ++ [(c1, c2, u)] := by rw [List.take_add_one, hei]; rfl
      refine ⟨Kp.mk kk, fun b hb => ?_, ?_⟩
      · rw [addrsOf_append] at hb
        rcases List.mem_append.mp hb with hb | hb
        · exact hJ.1 b hb
        · rw [show b = h.objs.size from List.mem_singleton.mp hb]
          intro hz
          obtain ⟨o, e⟩ := hlive _ hz
          exact absurd (Heap.lt_size e) (Nat.lt_irrefl _)
      · rw [hti]
        exact (hJ.2.keepA fun b _ o e => kk b o e).snoc (Heap.get?_push_size _ rfl)
    · intro Z D h5 tk zs hJ hlen' F N hkeep hD
      clear F2 hns₂
      have hns5 := F.ns
      have n5 := M.n5
      have n3 := M.n3
      have n4 := M.n4
      have hzs : Tps h5 zs es := by
        have := hJ.2
        rwa [← hlen, List.take_length] at this
      have hcc : ∀ x, (x1.count x != x2.count x) = (x3.count x != x4.count x) := fun x => by
        have := hc x
        rw [Bool.eq_iff_iff, bne_iff_ne, bne_iff_ne]
        omega
      have hdue : Tps h5 ds es := by
        rw [← hes, emits_congr hcc]
        exact C2.T.keep fun b o _ e => hkeep b o e
      have hoke : ∀ e ∈ es, PyData.strOk e.2.2 = true := fun e he => by
        rw [← hes] at he
        obtain ⟨x, hx, rfl⟩ := emits_mem _ he
        exact hok x hx
      iterate 1 walk1
      refine tps_ne (IsL.news N (.head _)) (C2.D.keep hkeep) hzs hdue hoke (Nat.le_of_ble_eq_true rfl) ?_
      repeat walk1
      rename_i la c6 h6' lA6 lb c7 h6 F6 N6 lAB
      obtain ⟨ha, haL, ha0⟩ := N6 _ (.tail _ (.head _))
      obtain ⟨hb, hbL, hb0⟩ := N6 _ (.head _)
      dsimp only at ha haL ha0 hb hbL hb0
      have hab : la ≠ lb := Nat.ne_of_lt lAB.1
      have nf : ∀ b, s.heap.get? b = none → b ∉ outer.filterMap (·.frame) := fun b e q => by
        obtain ⟨_, o, ho, _⟩ := hfun.mem q
        rw [e] at ho; cases ho
      have inB : ∀ b o, base.get? b = some o → (hideAll h6 (s.heap.objs.size :: la :: lb :: outer.filterMap (·.frame))).get? b = some o := fun b o e => hideAll_get _ (F6.keep _ _ (hst _ _ e)) (nmc ⟨Nat.ne_of_lt (Heap.lt_size (hst _ _ e)), nmc ⟨(fun q => by have := hst _ _ e; rw [q, ha0] at this; cases this), nmc ⟨(fun q => by have := hst _ _ e; rw [q, hb0] at this; cases this), fun q => by rw [(hfun.mem q).1] at e; cases e⟩⟩⟩)
      have hfunB : h6.FunFrames (hideAll h6 (s.heap.objs.size :: la :: lb :: outer.filterMap (·.frame))) outer := funFrames_hide (hfun.of_keeps fun b o e _ => ⟨o, F6.keep _ _ e, rfl⟩) fun e he a ha => List.mem_cons_of_mem _ (List.mem_cons_of_mem _ (List.mem_cons_of_mem _ (List.mem_filterMap.mpr ⟨e, he, ha⟩)))
      have szB : (hideAll h6 (s.heap.objs.size :: la :: lb :: outer.filterMap (·.frame))).objs.size ≤ h6.objs.size := Nat.le_of_eq (hideAll_size _ _)
      have hns6 := F6.ns
      clear hJ hzs hdue hoke hkeep hns5 hm3 hes hcc C2 hk3 hL3 hD XS TS
      refine wp_noE ?_
      refine wp_AF (n := 440) (l := _ :: outer) rfl rfl (Nat.le_of_ble_eq_true rfl) (Nat.le_of_ble_eq_true rfl) ?_
      refine unorder w (loose := loose) (mg := mg) (mb := mb) _ (_ :: outer) (hideAll h6 (s.heap.objs.size :: la :: lb :: outer.filterMap (·.frame))) la lb v1 v2 x1 x2 _ (X.keeps inB) (T.keeps inB) (fun b o e => of_hideAll _ e) szB (.cons (fun q => nomatch q) rfl hns6 (hideAll_none _ (.head _)) hfunB) ⟨_, ha⟩ ⟨_, hb⟩ hx1 hx2 hl1 hl2
        (nmc ⟨haL, nf _ ha0⟩) (nmc ⟨hbL, nf _ hb0⟩) (hideAll_none _ (.tail _ (.head _))) (hideAll_none _ (.tail _ (.tail _ (.head _)))) hab fun r mm ml aa h7 tk7 hk7 hu7 hr7 hm7 ha7 sm sa => ?_
      dsimp only at hk7 hu7 ⊢
      have inO : ∀ b, b ∈ outer.filterMap (·.frame) → ∃ o, s.heap.get? b = some o := fun b q => let ⟨_, o, ho, _⟩ := hfun.mem q; ⟨o, ho⟩
      have k7 : ∀ b o, b ∉ outer.filterMap (·.frame) → s.heap.get? b = some o → h7.get? b = some o := fun b o bf e => hk7 b o (fun q => by rw [q, ha0] at e; cases e) (fun q => by rw [q, hb0] at e; cases e) (nmc ⟨Nat.ne_of_lt (Heap.lt_size e), bf⟩) (F6.keep _ _ e)
      have u7 : ∀ b o, b ∈ outer.filterMap (·.frame) → s.heap.get? b = some o → ∃ sl, h7.get? b = some { o with slots := sl } := fun b o bf e => hu7 b o (List.mem_cons_of_mem _ bf) (F6.keep _ _ e)
      have b7 : ∀ b o, base.get? b = some o → h7.get? b = some o := fun b o e => k7 b o (fun q => by rw [(hfun.mem q).1] at e; cases e) (hst _ _ e)
      have hns7 : h7.Ns s.heap.objs.size m := by
        obtain ⟨oL, es', ep', hoL, r'⟩ := hns6
        obtain ⟨sl, hsl⟩ := hu7 _ _ (.head _) hoL
        exact ⟨_, es', ep', hsl, r'⟩
      obtain ⟨er, hr7⟩ := hr7
      have hmL : mm ≠ s.heap.objs.size := fun q => by
        obtain ⟨em, e⟩ := hm7
        obtain ⟨oL, _, _, hoL, hdL, _⟩ := hns7
        rw [q, hoL] at e
        cases e; cases hdL
      clear hk7 hu7 F6 N6 hns6 ha hb inB hfunB szB nf
      refine assign_Tuple_tuple (items := #[.ref mm, .ref lb]) rfl ⟨_, hr7, rfl, _, rfl⟩ rfl rfl fun h8 he8 => ?_
      dsimp only at he8 ⊢
      have k8 : ∀ b o, h7.get? b = some o → h8.get? b = some o := fun b o e => he8 b o (Nat.ne_of_lt (Heap.lt_size e)) e
      refine assignInOrder_cons (wpAny_assign_Name (wpAny_storeName_local rfl (hns7.keeps k8) (fun h9 hns9 hs9 => ?_) rfl))
      refine assignInOrder_cons (wpAny_assign_Name (wpAny_storeName_local rfl hns9 (fun h10 hns10 hs10 => ?_) rfl))
      refine assignInOrder_nil ?_
      dsimp only
      have k10 : ∀ b o, b ≠ s.heap.objs.size → h7.get? b = some o → h10.get? b = some o := fun b o bL e => hs10.extBut _ _ bL (hs9.extBut _ _ bL (k8 _ _ e))
      have F10 : Fr base s.heap.objs.size h10 _ := ⟨hns10, fun b o e => k10 b o (Nat.ne_of_lt (Heap.lt_size (hst _ _ e))) (b7 _ _ e), hbs⟩
      have N10 : News base s.heap.objs.size h10 [] := News.nil
      have m10 : IsL h10 mm ml := let ⟨e, q⟩ := hm7; ⟨e, k10 _ _ hmL q⟩
      have a10 : IsL h10 lb aa := let ⟨e, q⟩ := ha7; ⟨e, k10 _ _ hbL q⟩
      have e7 : ∀ b o, b ∉ outer.filterMap (·.frame) → s.heap.get? b = some o → h10.get? b = some o := fun b o bf e => k10 b o (Nat.ne_of_lt (Heap.lt_size e)) (k7 _ _ bf e)
      have eu : ∀ b o, b ∈ outer.filterMap (·.frame) → s.heap.get? b = some o → ∃ sl, h10.get? b = some { o with slots := sl } := fun b o bf e => let ⟨sl, q⟩ := u7 _ _ bf e; ⟨sl, k10 _ _ (Nat.ne_of_lt (Heap.lt_size e)) q⟩
      clear hns9 hs9 hs10 k8 k10 hns7 b7 u7 k7 hr7 he8 hm7 ha7 M inO
      repeat walk1
      have ul := unord_len x1.reverse x2 []
      rw [List.length_reverse] at ul
      simp only [List.length_nil, Nat.add_zero] at ul
      have uo := unord_ok hok
      refine sorted_keep m10 sm (by rw [sm.len_eq]; omega) fun h11 r11 vs11 ss11 k11 L11 S11 P11 O11 => ?_
      dsimp only at k11 ⊢
      have F11 := F10.keeps k11
      have N11 : News base s.heap.objs.size h11 [] := News.nil
      have a11 := a10.keep k11
      clear F10 N10 m10 a10 hns10
      repeat walk1
      refine wp_noE ?_
      refine wp_AB rfl (Nat.le_of_ble_eq_true rfl) (Nat.le_of_ble_eq_true rfl) ?_
      refine beyond w (loose := loose) (mg := mg) (mb := mb) _ l3 l4 v3 v4 x3 x4 _ _ (X.keeps F11.keep) (T.keeps F11.keep) (hb3.keep F11.keep) (hb4.keep F11.keep) hx3 hx4 hl3 hl4 fun r12 vs12 ss12 h12 tk12 k12 L12 S12 P12 O12 => ?_
      dsimp only at k12 ⊢
      have ems : ss11 = ss12 := sorted_missing hc P11 O11 P12 O12
      subst ems
      refine strs_eq (L11.keep k12) L12 S11 S12 (fun z hz => uo.1 z (P11.subset hz)) (Nat.le_of_ble_eq_true rfl) ?_
      have F12 := F11.keeps k12
      have a12 := a11.keep k12
      have N12 : News base s.heap.objs.size h12 [] := News.nil
      clear F11 N11 a11 L11 L12
      repeat walk1
      refine sorted_keep a12 sa (by rw [sa.len_eq]; omega) fun h13 r13 vs13 ss13 k13 L13 S13 P13 O13 => ?_
      dsimp only at k13 ⊢
      have F13 := F12.keeps k13
      have N13 : News base s.heap.objs.size h13 [] := News.nil
      clear F12 N12 a12
      repeat walk1
      refine wp_noE ?_
      refine wp_AB rfl (Nat.le_of_ble_eq_true rfl) (Nat.le_of_ble_eq_true rfl) ?_
      refine beyond w (loose := loose) (mg := mg) (mb := mb) _ l4 l3 v4 v3 x4 x3 _ _ (X.keeps F13.keep) (T.keeps F13.keep) (hb4.keep F13.keep) (hb3.keep F13.keep) hx4 hx3 hl4 hl3 fun r14 vs14 ss14 h14 tk14 k14 L14 S14 P14 O14 => ?_
      dsimp only at k14 ⊢
      have ems : ss13 = ss14 := sorted_beyond hc P13 O13 P14 O14
      subst ems
      refine strs_eq (L13.keep k14) L14 S13 S14 (fun z hz => uo.2 z (P13.subset hz)) (Nat.le_of_ble_eq_true rfl) ?_
      exact hret h14 _ (fun b o bf e => k14 _ _ (k13 _ _ (k12 _ _ (k11 _ _ (e7 _ _ bf e))))) fun b o bf e => let ⟨sl, q⟩ := eu _ _ bf e; ⟨sl, k14 _ _ (k13 _ _ (k12 _ _ (k11 _ _ q)))⟩
  · exact ⟨_, _, mm, [], [], rfl, C0.move AP (C0.F.ns.keeps hk4) (fun b o _ _ e => hk4 b o e), by rw [List.take_zero]; exact .nil, M0, ⟨_, Heap.get?_push_size _ rfl, rfl, rfl⟩⟩

end

section
def codesL : List Str := [Str.ofString "  ", Str.ofString "- ", Str.ofString "+ ", Str.ofString "? ", Str.ofString "+-"]
def textsL : List Str := [Str.ofString "", Str.ofString "a", Str.ofString "- a", Str.ofString "+ "]
def codeAt (k : Nat) : Str := codesL.getD k (Str.ofString "")
def textAt (k : Nat) : Str := textsL.getD k (Str.ofString "")
def rowS (n : Nat) : Str := codeAt (n % 5) ++ codeAt (n / 5 % 5) ++ textAt (n / 25)
def row2 (n : Nat) : Str := codeAt (n / 5 % 5) ++ textAt (n / 25)
def fit1 (a n : Nat) : Bool := n % 5 == 0 || n % 5 == a
def fit2 (b n : Nat) : Bool := n / 5 % 5 == 0 || n / 5 % 5 == b
def markB (a b n : Nat) : Bool := fit1 a n && fit2 b n
def toldS (a b : Nat) (dn : List Nat) : List Str := (dn.filter (markB a b)).map (fun n => textAt (n / 25))

theorem first_all : ∀ a ∈ [1, 2], ∀ n ∈ List.range 100, restP (tagOf (a : Nat)) (rowS n) = fit1 a n ∧ restO (rowS n) = row2 n := by decide +kernel
theorem second_all : ∀ b ∈ [1, 2], ∀ n ∈ List.range 100, restP (tagOf (b : Nat)) (row2 n) = fit2 b n ∧ restO (row2 n) = textAt (n / 25) := by decide +kernel
theorem told_first {a : Nat} (ha : a = 1 ∨ a = 2) : ∀ dn : List Nat, (∀ n ∈ dn, n < 100) → outsS (dn.map rowS) (restP (tagOf (a : Nat))) restO = (dn.filter (fit1 a)).map row2
  | [], _ => rfl
  | n :: r, h => by
    have ih := told_first ha r fun x hx => h x (List.mem_cons_of_mem _ hx)
    have q := first_all a (by simpa using ha) n (List.mem_range.mpr (h n (List.mem_cons_self ..)))
    unfold outsS at ih ⊢
    rw [List.map_cons, List.filter_cons, List.filter_cons, q.1]
    cases fit1 a n with
    | true => simp only [if_true, List.map_cons, q.2, ih]
    | false => simp only [Bool.false_eq_true, if_false, ih]
theorem told_second {b : Nat} (hb : b = 1 ∨ b = 2) : ∀ dn : List Nat, (∀ n ∈ dn, n < 100) → outsS (dn.map row2) (restP (tagOf (b : Nat))) restO = (dn.filter (fit2 b)).map (fun n => textAt (n / 25))
  | [], _ => rfl
  | n :: r, h => by
    have ih := told_second hb r fun x hx => h x (List.mem_cons_of_mem _ hx)
    have q := second_all b (by simpa using hb) n (List.mem_range.mpr (h n (List.mem_cons_self ..)))
    unfold outsS at ih ⊢
    rw [List.map_cons, List.filter_cons, List.filter_cons, q.1]
    cases fit2 b n with
    | true => simp only [if_true, List.map_cons, q.2, ih]
    | false => simp only [Bool.false_eq_true, if_false, ih]
theorem told_twice {a b : Nat} (ha : a = 1 ∨ a = 2) (hb : b = 1 ∨ b = 2) (dn : List Nat) (h : ∀ n ∈ dn, n < 100) :
    outsS (outsS (dn.map rowS) (restP (tagOf (a : Nat))) restO) (restP (tagOf (b : Nat))) restO = toldS a b dn := by
  rw [told_first ha dn h, told_second hb _ fun n hn => h n (List.mem_filter.mp hn).1, List.filter_filter]
  unfold toldS
  congr 2
  funext n
  exact Bool.and_comm _ _

def mineS (f g : Nat → Bool) (dn : List Nat) : List Str := (dn.filter (fun n => f n && !g n)).map (fun n => textAt (n / 25))
theorem counts_meet (f g : Nat → Bool) (t : Nat → Str) (x : Str) : ∀ dn : List Nat, ((dn.filter f).map t).count x + ((dn.filter (fun n => g n && !f n)).map t).count x = ((dn.filter g).map t).count x + ((dn.filter (fun n => f n && !g n)).map t).count x
  | [] => rfl
  | n :: r => by
    have ih := counts_meet f g t x r
    simp only [List.filter_cons]
    cases f n <;> cases g n <;> simp [List.count_cons] <;> omega
theorem text_ok : ∀ k, PyData.strOk (textAt k) = true
  | 0 => by decide +kernel
  | 1 => by decide +kernel
  | 2 => by decide +kernel
  | 3 => by decide +kernel
  | k + 4 => by show PyData.strOk (Str.ofString "") = true; decide +kernel
theorem texts_ok (f : Nat → Bool) (dn : List Nat) : ∀ x ∈ (dn.filter f).map (fun n => textAt (n / 25)), PyData.strOk x = true := fun x hx => by
  obtain ⟨n, _, rfl⟩ := List.mem_map.mp hx
  exact text_ok _
theorem texts_len (f : Nat → Bool) (dn : List Nat) : ((dn.filter f).map (fun n => textAt (n / 25))).length ≤ dn.length := by
  rw [List.length_map]; exact List.length_filter_le _ _

theorem drawn_nats (ns : List Int) : ∃ dn : List Nat, List.map (fun k' => Int.fmod k' 100) ([26, 35, 57, 25] ++ ns.take 10) = dn.map (fun (n : Nat) => (n : Int)) ∧ (∀ n ∈ dn, n < 100) ∧ dn.length ≤ 14 := by
  refine ⟨(List.map (fun k' => Int.fmod k' 100) ([26, 35, 57, 25] ++ ns.take 10)).map Int.toNat, ?_, ?_, ?_⟩
  · rw [List.map_map, List.map_map]
    refine List.map_congr_left fun x _ => ?_
    have := Int.fmod_nonneg_of_pos x (b := 100) (by decide)
    show Int.fmod x 100 = (((Int.fmod x 100).toNat : Nat) : Int)
    omega
  · intro n hn
    obtain ⟨x, hx, rfl⟩ := List.mem_map.mp hn
    obtain ⟨y, _, rfl⟩ := List.mem_map.mp hx
    have := Int.fmod_lt_of_pos y (b := 100) (by decide)
    have := Int.fmod_nonneg_of_pos y (b := 100) (by decide)
    omega
  · rw [List.length_map, List.length_map, List.length_append, List.length_take]
    simp only [List.length_cons, List.length_nil]
    omega
theorem fmod5 (n : Nat) : Int.fmod (n : Int) 5 = ((n % 5 : Nat) : Int) := by rw [Int.fmod_eq_emod_of_nonneg _ (by decide)]; omega
theorem fdiv5 (n : Nat) : Int.fdiv (n : Int) 5 = ((n / 5 : Nat) : Int) := by rw [Int.fdiv_eq_ediv_of_nonneg _ (by decide)]; omega
theorem fdiv25 (n : Nat) : Int.fdiv (n : Int) 25 = ((n / 25 : Nat) : Int) := by rw [Int.fdiv_eq_ediv_of_nonneg _ (by decide)]; omega
theorem at_strs {vs : List Value} {ys : List Str} {d : Str} (h : StrsAre vs ys) {k : Nat} (hk : k < ys.length) : ∃ t, vs[((k : Nat) : Int).toNat]? = some (.str (ys.getD k d) t) := by
  rw [Int.toNat_natCast]
  refine h.at (j := k) ?_
  rw [List.getD_eq_getElem?_getD, List.getElem?_eq_getElem hk]; rfl
theorem News.sub {h₀ h : Heap} {L : Addr} {l l' : List (Addr × Obj)} (N : News h₀ L h l) (k : ∀ p ∈ l', p ∈ l) : News h₀ L h l' := fun p hp => N p (k p hp)
theorem code_len : ∀ k, (codeAt k).length ≤ 2
  | 0 => by decide
  | 1 => by decide
  | 2 => by decide
  | 3 => by decide
  | 4 => by decide
  | k + 5 => by show (Str.ofString "").length ≤ 2; decide
theorem text_len : ∀ k, (textAt k).length ≤ 3
  | 0 => by decide
  | 1 => by decide
  | 2 => by decide
  | 3 => by decide
  | k + 4 => by show (Str.ofString "").length ≤ 3; decide
theorem len_app (x y : Str) : (x ++ y).length = x.length + y.length := by
  show (x.cps ++ y.cps).size = _
  rw [Array.size_append]; rfl
theorem row_len (n : Nat) : (rowS n).length ≤ 7 := by
  have h1 := code_len (n % 5)
  have h2 := code_len (n / 5 % 5)
  have h3 := text_len (n / 25)
  unfold rowS
  rw [len_app, len_app]
  omega
theorem row2_len (n : Nat) : (row2 n).length ≤ 5 := by
  have h2 := code_len (n / 5 % 5)
  have h3 := text_len (n / 25)
  unfold row2
  rw [len_app]
  omega
theorem ints_nat {vs : List Value} {dn : List Nat} {i : Nat} {v : Value} (h : IntsAre vs (dn.map (fun (n : Nat) => (n : Int)))) (hv : vs[i]? = some v) : ∃ n t, v = .int (n : Nat) t ∧ dn[i]? = some n := by
  obtain ⟨k, t, rfl, e⟩ := h.at i v hv
  rw [List.getElem?_map] at e
  cases q : dn[i]? with
  | none => rw [q] at e; cases e
  | some n =>
    rw [q] at e
    cases e
    exact ⟨n, t, rfl, rfl⟩

def KZ (Z : Addr → Prop) (h h' : Heap) : Prop := ∀ b o, ¬ Z b → h.get? b = some o → h'.get? b = some o
theorem KZ.refl (Z : Addr → Prop) (h : Heap) : KZ Z h h := fun _ _ _ e => e
theorem KZ.trans {Z : Addr → Prop} {a b c : Heap} (x : KZ Z a b) (y : KZ Z b c) : KZ Z a c := fun _ _ z e => y _ _ z (x _ _ z e)
theorem KZ.list {Z : Addr → Prop} {h h' : Heap} {l : Addr} {vs : List Value} (k : KZ Z h h') (hz : ¬ Z l) (x : IsL h l vs) : IsL h' l vs := let ⟨e, q⟩ := x; ⟨e, k _ _ hz q⟩
theorem KZ.cell {Z : Addr → Prop} {h h' : Heap} {l : Addr} {v : Option Value} (k : KZ Z h h') (hz : ¬ Z l) (x : h.IsCell l v) : h'.IsCell l v := let ⟨o, q, r⟩ := x; ⟨o, k _ _ hz q, r⟩

/-- a list of lists of texts, none of them in Z -/
inductive LsAre (h : Heap) (Z : Addr → Prop) : List Value → List (List Str) → Prop
  | nil : LsAre h Z [] []
  | cons {a : Addr} {us : List Value} {ys : List Str} {vs yss} : ¬ Z a → IsL h a us → StrsAre us ys → LsAre h Z vs yss → LsAre h Z (.ref a :: vs) (ys :: yss)
theorem LsAre.keep {h h' : Heap} {Z Z' : Addr → Prop} (k : ∀ b o, ¬ Z b → h.get? b = some o → h'.get? b = some o) (w : ∀ b, ¬ Z b → ¬ Z' b) : ∀ {vs yss}, LsAre h Z vs yss → LsAre h' Z' vs yss
  | _, _, .nil => .nil
  | _, _, .cons n l s r => .cons (w _ n) (KZ.list k n l) s (r.keep k w)
theorem LsAre.snoc {h : Heap} {Z : Addr → Prop} {a : Addr} {us : List Value} {ys : List Str} (n : ¬ Z a) (l : IsL h a us) (s : StrsAre us ys) : ∀ {vs yss}, LsAre h Z vs yss → LsAre h Z (vs ++ [.ref a]) (yss ++ [ys])
  | _, _, .nil => .cons n l s .nil
  | _, _, .cons n' l' s' r => .cons n' l' s' (r.snoc n l s)
theorem LsAre.at {h : Heap} {Z : Addr → Prop} : ∀ {vs yss} {i : Nat} {ys : List Str}, LsAre h Z vs yss → yss[i]? = some ys → ∃ a us, vs[i]? = some (.ref a) ∧ ¬ Z a ∧ IsL h a us ∧ StrsAre us ys
  | _, _, 0, _, .cons n l s _, e => by cases e; exact ⟨_, _, rfl, n, l, s⟩
  | _, _, i + 1, _, .cons _ _ _ r, e => r.at (i := i) e
theorem LsAre.len {h : Heap} {Z : Addr → Prop} : ∀ {vs yss}, LsAre h Z vs yss → vs.length = yss.length
  | _, _, .nil => rfl
  | _, _, .cons _ _ _ r => congrArg (· + 1) r.len
inductive BsAre (h : Heap) (Z : Addr → Prop) : List Value → List (List Bool) → Prop
  | nil : BsAre h Z [] []
  | cons {a : Addr} {bs : List Bool} {vs bss} : ¬ Z a → IsL h a (bs.map Value.bool) → BsAre h Z vs bss → BsAre h Z (.ref a :: vs) (bs :: bss)
theorem BsAre.keep {h h' : Heap} {Z Z' : Addr → Prop} (k : ∀ b o, ¬ Z b → h.get? b = some o → h'.get? b = some o) (w : ∀ b, ¬ Z b → ¬ Z' b) : ∀ {vs yss}, BsAre h Z vs yss → BsAre h' Z' vs yss
  | _, _, .nil => .nil
  | _, _, .cons n l r => .cons (w _ n) (KZ.list k n l) (r.keep k w)
theorem BsAre.snoc {h : Heap} {Z : Addr → Prop} {a : Addr} {bs : List Bool} (n : ¬ Z a) (l : IsL h a (bs.map Value.bool)) : ∀ {vs yss}, BsAre h Z vs yss → BsAre h Z (vs ++ [.ref a]) (yss ++ [bs])
  | _, _, .nil => .cons n l .nil
  | _, _, .cons n' l' r => .cons n' l' (r.snoc n l)
theorem BsAre.at {h : Heap} {Z : Addr → Prop} : ∀ {vs bss} {i : Nat} {bs : List Bool}, BsAre h Z vs bss → bss[i]? = some bs → ∃ a, vs[i]? = some (.ref a) ∧ ¬ Z a ∧ IsL h a (bs.map Value.bool)
  | _, _, 0, _, .cons n l _, e => by cases e; exact ⟨_, rfl, n, l⟩
  | _, _, i + 1, _, .cons _ _ r, e => r.at (i := i) e
theorem BsAre.len {h : Heap} {Z : Addr → Prop} : ∀ {vs yss}, BsAre h Z vs yss → vs.length = yss.length
  | _, _, .nil => rfl
  | _, _, .cons _ _ r => congrArg (· + 1) r.len
def pairsL : List (Nat × Nat) := [(1, 1), (1, 2), (2, 1), (2, 2)]

def Z1 (L LL MM I b : Addr) : Prop := b = L ∨ b = L + 1 + 1 + 1 ∨ b = L + 1 + 1 + 1 + 1 ∨ b = LL ∨ b = MM ∨ b = I
theorem Z1.not {L LL MM I b : Addr} (h1 : b ≠ L) (h2 : b ≠ L + 1 + 1 + 1) (h3 : b ≠ L + 1 + 1 + 1 + 1) (h4 : b ≠ LL) (h5 : b ≠ MM) (h6 : b ≠ I) : ¬ Z1 L LL MM I b := fun q => by
  rcases q with q | q | q | q | q | q
  · exact h1 q
  · exact h2 q
  · exact h3 q
  · exact h4 q
  · exact h5 q
  · exact h6 q
theorem list_ne_cell {h : Heap} {a b : Addr} {vs : List Value} {v : Option Value} (x : IsL h a vs) (y : h.IsCell b v) : a ≠ b := fun q => by
  obtain ⟨e, x⟩ := x
  obtain ⟨o, y, d⟩ := y
  rw [q, y] at x; cases x; cases d
theorem list_ne_ns {h : Heap} {a b : Addr} {vs : List Value} {m : Str → Option Value} (x : IsL h a vs) (y : h.Ns b m) : a ≠ b := fun q => by
  obtain ⟨e, x⟩ := x
  obtain ⟨o, _, _, y, d, _⟩ := y
  rw [q, y] at x; cases x; cases d

structure LNm (RW DR LL MM : Addr) (m : Str → Option Value) : Prop where
  rows : m (Str.ofString "rows") = some (.ref RW)
  drawn : m (Str.ofString "drawn") = some (.ref DR)
  lists : m (Str.ofString "lists") = some (.ref LL)
  marks : m (Str.ofString "marks") = some (.ref MM)
theorem LNm.store {RW DR LL MM : Addr} {m : Str → Option Value} {y : Str} {v : Value} (c : LNm RW DR LL MM m)
    (hy : [Str.ofString "rows", Str.ofString "drawn", Str.ofString "lists", Str.ofString "marks"].contains y = false) : LNm RW DR LL MM (fun z => if z = y then some v else m z) := by
  have ne : ∀ z ∈ [Str.ofString "rows", Str.ofString "drawn", Str.ofString "lists", Str.ofString "marks"], z ≠ y := fun z hz e => by
    subst e
    rw [List.contains_iff_mem.mpr hz] at hy; cases hy
  exact ⟨(if_neg (ne _ (by simp))).trans c.rows, (if_neg (ne _ (by simp))).trans c.drawn, (if_neg (ne _ (by simp))).trans c.lists, (if_neg (ne _ (by simp))).trans c.marks⟩
theorem LNm.of {H₀ h : Heap} {L RW DR LL MM : Addr} {m : Str → Option Value} (_F : Fr H₀ L h m) (a : m (Str.ofString "rows") = some (.ref RW)) (b : m (Str.ofString "drawn") = some (.ref DR)) (c : m (Str.ofString "lists") = some (.ref LL)) (d : m (Str.ofString "marks") = some (.ref MM)) : LNm RW DR LL MM m := ⟨a, b, c, d⟩

structure W1 (H h0 : Heap) (LL MM PL RW DR I : Addr) (dn : List Nat) (k j : Nat) (m : Str → Option Value) (h : Heap) : Prop where
  F : Fr H H.objs.size h m
  keep : KZ (Z1 H.objs.size LL MM I) h0 h
  nm : LNm RW DR LL MM m
  c1 : ∃ v, h.IsCell (H.objs.size + 1 + 1 + 1) v
  c2 : ∃ v, h.IsCell (H.objs.size + 1 + 1 + 1 + 1) v
  L : ∃ tv, IsL h LL tv ∧ LsAre h (Z1 H.objs.size LL MM I) tv ((pairsL.take k).map fun p => toldS p.1 p.2 dn)
  M : ∃ mv, IsL h MM mv ∧ BsAre h (Z1 H.objs.size LL MM I) mv ((pairsL.take k).map fun p => dn.map (markB p.1 p.2))
  it : h.IsListIter I PL j

structure WAp (H : Heap) (LL MM I : Addr) : Prop where
  c1 : H.get? (H.objs.size + 1 + 1 + 1) = none
  c2 : H.get? (H.objs.size + 1 + 1 + 1 + 1) = none
  l0 : H.get? LL = none
  m0 : H.get? MM = none
  i0 : H.get? I = none
  lL : LL ≠ H.objs.size
  mL : MM ≠ H.objs.size
  iL : I ≠ H.objs.size
  c1L : H.objs.size + 1 + 1 + 1 ≠ H.objs.size
  c2L : H.objs.size + 1 + 1 + 1 + 1 ≠ H.objs.size
  c12 : H.objs.size + 1 + 1 + 1 ≠ H.objs.size + 1 + 1 + 1 + 1
  lm : LL ≠ MM
  lc1 : LL ≠ H.objs.size + 1 + 1 + 1
  lc2 : LL ≠ H.objs.size + 1 + 1 + 1 + 1
  mc1 : MM ≠ H.objs.size + 1 + 1 + 1
  mc2 : MM ≠ H.objs.size + 1 + 1 + 1 + 1
  il : I ≠ LL
  im : I ≠ MM
  ic1 : I ≠ H.objs.size + 1 + 1 + 1
  ic2 : I ≠ H.objs.size + 1 + 1 + 1 + 1
section
variable {H h0 h h' : Heap} {LL MM PL RW DR I : Addr} {dn : List Nat} {k j j' : Nat} {m m' : Str → Option Value}
theorem WAp.old (A : WAp H LL MM I) {b : Addr} {o : Obj} (e : H.get? b = some o) : ¬ Z1 H.objs.size LL MM I b :=
  Z1.not (Nat.ne_of_lt (Heap.lt_size e)) (fun q => by rw [q, A.c1] at e; cases e) (fun q => by rw [q, A.c2] at e; cases e) (fun q => by rw [q, A.l0] at e; cases e) (fun q => by rw [q, A.m0] at e; cases e) (fun q => by rw [q, A.i0] at e; cases e)
theorem WAp.nL {b : Addr} (n : ¬ Z1 H.objs.size LL MM I b) : b ≠ H.objs.size := fun q => n (.inl q)
/-- only the frame changes -/
theorem W1.frame (A : WAp H LL MM I) (W : W1 H h0 LL MM PL RW DR I dn k j m h) (hn : h'.Ns H.objs.size m') (nm : LNm RW DR LL MM m') (kk : ∀ b o, b ≠ H.objs.size → h.get? b = some o → h'.get? b = some o) : W1 H h0 LL MM PL RW DR I dn k j m' h' where
  F := ⟨hn, fun b o e => kk _ _ (Nat.ne_of_lt (Heap.lt_size e)) (W.F.keep _ _ e), W.F.above⟩
  keep := fun b o n e => kk _ _ (WAp.nL n) (W.keep _ _ n e)
  nm := nm
  c1 := let ⟨v, o, q, r⟩ := W.c1; ⟨v, o, kk _ _ A.c1L q, r⟩
  c2 := let ⟨v, o, q, r⟩ := W.c2; ⟨v, o, kk _ _ A.c2L q, r⟩
  L := let ⟨tv, ⟨e, q⟩, r⟩ := W.L; ⟨tv, ⟨e, kk _ _ A.lL q⟩, r.keep (fun b o n e => kk _ _ (WAp.nL n) e) fun _ n => n⟩
  M := let ⟨tv, ⟨e, q⟩, r⟩ := W.M; ⟨tv, ⟨e, kk _ _ A.mL q⟩, r.keep (fun b o n e => kk _ _ (WAp.nL n) e) fun _ n => n⟩
  it := W.it.at fun o e => kk _ _ A.iL e
theorem W1.step (A : WAp H LL MM I) (W : W1 H h0 LL MM PL RW DR I dn k j m h) (hit : h'.IsListIter I PL j') (kk : ∀ b o, b ≠ I → h.get? b = some o → h'.get? b = some o) : W1 H h0 LL MM PL RW DR I dn k j' m h' where
  F := ⟨W.F.ns.at' fun o e => kk _ _ (Ne.symm A.iL) e, fun b o e => kk _ _ (fun q => by rw [q, A.i0] at e; cases e) (W.F.keep _ _ e), W.F.above⟩
  keep := fun b o n e => kk _ _ (fun q => n (.inr (.inr (.inr (.inr (.inr q)))))) (W.keep _ _ n e)
  nm := W.nm
  c1 := let ⟨v, o, q, r⟩ := W.c1; ⟨v, o, kk _ _ (Ne.symm A.ic1) q, r⟩
  c2 := let ⟨v, o, q, r⟩ := W.c2; ⟨v, o, kk _ _ (Ne.symm A.ic2) q, r⟩
  L := let ⟨tv, ⟨e, q⟩, r⟩ := W.L; ⟨tv, ⟨e, kk _ _ (Ne.symm A.il) q⟩, r.keep (fun b o n e => kk _ _ (fun q => n (.inr (.inr (.inr (.inr (.inr q)))))) e) fun _ n => n⟩
  M := let ⟨tv, ⟨e, q⟩, r⟩ := W.M; ⟨tv, ⟨e, kk _ _ (Ne.symm A.im) q⟩, r.keep (fun b o n e => kk _ _ (fun q => n (.inr (.inr (.inr (.inr (.inr q)))))) e) fun _ n => n⟩
  it := hit
theorem W1.cell1 {v : Option Value} (A : WAp H LL MM I) (W : W1 H h0 LL MM PL RW DR I dn k j m h) (hc : h'.IsCell (H.objs.size + 1 + 1 + 1) v) (kk : ∀ b o, b ≠ H.objs.size + 1 + 1 + 1 → h.get? b = some o → h'.get? b = some o) : W1 H h0 LL MM PL RW DR I dn k j m h' where
  F := ⟨W.F.ns.at' fun o e => kk _ _ (Ne.symm A.c1L) e, fun b o e => kk _ _ (fun q => by rw [q, A.c1] at e; cases e) (W.F.keep _ _ e), W.F.above⟩
  keep := fun b o n e => kk _ _ (fun q => n (.inr (.inl q))) (W.keep _ _ n e)
  nm := W.nm
  c1 := ⟨v, hc⟩
  c2 := let ⟨v, o, q, r⟩ := W.c2; ⟨v, o, kk _ _ (Ne.symm A.c12) q, r⟩
  L := let ⟨tv, ⟨e, q⟩, r⟩ := W.L; ⟨tv, ⟨e, kk _ _ A.lc1 q⟩, r.keep (fun b o n e => kk _ _ (fun q => n (.inr (.inl q))) e) fun _ n => n⟩
  M := let ⟨tv, ⟨e, q⟩, r⟩ := W.M; ⟨tv, ⟨e, kk _ _ A.mc1 q⟩, r.keep (fun b o n e => kk _ _ (fun q => n (.inr (.inl q))) e) fun _ n => n⟩
  it := W.it.at fun o e => kk _ _ A.ic1 e
theorem W1.cell2 {v : Option Value} (A : WAp H LL MM I) (W : W1 H h0 LL MM PL RW DR I dn k j m h) (hc : h'.IsCell (H.objs.size + 1 + 1 + 1 + 1) v) (kk : ∀ b o, b ≠ H.objs.size + 1 + 1 + 1 + 1 → h.get? b = some o → h'.get? b = some o) : W1 H h0 LL MM PL RW DR I dn k j m h' where
  F := ⟨W.F.ns.at' fun o e => kk _ _ (Ne.symm A.c2L) e, fun b o e => kk _ _ (fun q => by rw [q, A.c2] at e; cases e) (W.F.keep _ _ e), W.F.above⟩
  keep := fun b o n e => kk _ _ (fun q => n (.inr (.inr (.inl q)))) (W.keep _ _ n e)
  nm := W.nm
  c1 := let ⟨v, o, q, r⟩ := W.c1; ⟨v, o, kk _ _ A.c12 q, r⟩
  c2 := ⟨v, hc⟩
  L := let ⟨tv, ⟨e, q⟩, r⟩ := W.L; ⟨tv, ⟨e, kk _ _ A.lc2 q⟩, r.keep (fun b o n e => kk _ _ (fun q => n (.inr (.inr (.inl q)))) e) fun _ n => n⟩
  M := let ⟨tv, ⟨e, q⟩, r⟩ := W.M; ⟨tv, ⟨e, kk _ _ A.mc2 q⟩, r.keep (fun b o n e => kk _ _ (fun q => n (.inr (.inr (.inl q)))) e) fun _ n => n⟩
  it := W.it.at fun o e => kk _ _ A.ic2 e
theorem take_pair {k : Nat} {p : Nat × Nat} (hp : pairsL[k]? = some p) : pairsL.take (k + 1) = pairsL.take k ++ [p] := by rw [List.take_add_one, hp]; rfl
/-- both appends at the end of a turn -/
theorem W1.told {a b : Nat} {ta : Addr} {us : List Value} {h2 : Heap} (A : WAp H LL MM I) (W : W1 H h0 LL MM PL RW DR I dn k j m h) (hp : pairsL[k]? = some (a, b)) (nta : ¬ Z1 H.objs.size LL MM I ta) (lta : IsL h ta us) (sta : StrsAre us (toldS a b dn))
    {mb : Addr} (nmb : ¬ Z1 H.objs.size LL MM I mb) (lmb : IsL h mb ((dn.map (markB a b)).map Value.bool))
    (k1 : ∀ b o, b ≠ LL → h.get? b = some o → h2.get? b = some o) (l1 : ∀ tv, IsL h LL tv → IsL h2 LL (tv ++ [.ref ta])) (k2 : ∀ b o, b ≠ MM → h2.get? b = some o → h'.get? b = some o) (l2 : ∀ mv, IsL h2 MM mv → IsL h' MM (mv ++ [.ref mb])) :
    W1 H h0 LL MM PL RW DR I dn (k + 1) j m h' := by
  have kk : ∀ b o, b ≠ LL → b ≠ MM → h.get? b = some o → h'.get? b = some o := fun b o q1 q2 e => k2 _ _ q2 (k1 _ _ q1 e)
  have kz : ∀ b o, ¬ Z1 H.objs.size LL MM I b → h.get? b = some o → h'.get? b = some o := fun b o n e => kk _ _ (fun q => n (.inr (.inr (.inr (.inl q))))) (fun q => n (.inr (.inr (.inr (.inr (.inl q)))))) e
  obtain ⟨tv, htv, htl⟩ := W.L
  obtain ⟨mv, hmv, hml⟩ := W.M
  refine ⟨⟨W.F.ns.at' fun o e => kk _ _ (Ne.symm A.lL) (Ne.symm A.mL) e, fun b o e => kz _ _ (A.old e) (W.F.keep _ _ e), W.F.above⟩, fun b o n e => kz _ _ n (W.keep _ _ n e), W.nm, ?_, ?_, ?_, ?_, W.it.at fun o e => kk _ _ A.il A.im e⟩
  · obtain ⟨v, o, q, r⟩ := W.c1; exact ⟨v, o, kk _ _ (Ne.symm A.lc1) (Ne.symm A.mc1) q, r⟩
  · obtain ⟨v, o, q, r⟩ := W.c2; exact ⟨v, o, kk _ _ (Ne.symm A.lc2) (Ne.symm A.mc2) q, r⟩
  · obtain ⟨e, q⟩ := l1 tv htv
    refine ⟨_, ⟨e, k2 _ _ A.lm q⟩, ?_⟩
    rw [take_pair hp, List.map_append]
    exact (htl.keep kz fun _ n => n).snoc nta (KZ.list kz nta lta) sta
  · obtain ⟨e, q⟩ := hmv
    refine ⟨_, l2 mv ⟨e, k1 _ _ (Ne.symm A.lm) q⟩, ?_⟩
    rw [take_pair hp, List.map_append]
    exact (hml.keep kz fun _ n => n).snoc nmb (KZ.list kz nmb lmb)
end
section
variable {H h0 h : Heap} {LL MM PL RW DR I b : Addr} {dn : List Nat} {k j : Nat} {m : Str → Option Value}
theorem W1.there (W : W1 H h0 LL MM PL RW DR I dn k j m h) (z : Z1 H.objs.size LL MM I b) : ∃ o, h.get? b = some o := by
  rcases z with rfl | rfl | rfl | rfl | rfl | rfl
  · obtain ⟨o, _, _, e, _⟩ := W.F.ns; exact ⟨o, e⟩
  · obtain ⟨_, o, e, _⟩ := W.c1; exact ⟨o, e⟩
  · obtain ⟨_, o, e, _⟩ := W.c2; exact ⟨o, e⟩
  · obtain ⟨_, ⟨_, e⟩, _⟩ := W.L; exact ⟨_, e⟩
  · obtain ⟨_, ⟨_, e⟩, _⟩ := W.M; exact ⟨_, e⟩
  · obtain ⟨o, e, _⟩ := W.it; exact ⟨o, e⟩
theorem W1.fresh (W : W1 H h0 LL MM PL RW DR I dn k j m h) (e : h.get? b = none) : ¬ Z1 H.objs.size LL MM I b := fun z => by
  obtain ⟨o, q⟩ := W.there z
  rw [e] at q; cases q
end
def KL (L : Addr) (h h' : Heap) : Prop := ∀ b o, b ≠ L → h.get? b = some o → h'.get? b = some o
theorem KL.refl (L : Addr) (h : Heap) : KL L h h := fun _ _ _ e => e
theorem KL.trans {L : Addr} {a b c : Heap} (x : KL L a b) (y : KL L b c) : KL L a c := fun _ _ z e => y _ _ z (x _ _ z e)
theorem KL.list {L : Addr} {h h' : Heap} {l : Addr} {vs : List Value} (k : KL L h h') (hz : l ≠ L) (x : IsL h l vs) : IsL h' l vs := let ⟨e, q⟩ := x; ⟨e, k _ _ hz q⟩
theorem KL.cell {L : Addr} {h h' : Heap} {l : Addr} {v : Option Value} (k : KL L h h') (hz : l ≠ L) (x : h.IsCell l v) : h'.IsCell l v := let ⟨o, q, r⟩ := x; ⟨o, k _ _ hz q, r⟩

end

section
local macro_rules | `(tactic| walk_at "PAD") => `(tactic| skip)
local macro_rules | `(tactic| walk_at "PAD") => `(tactic| skip)

local macro_rules | `(tactic| walk_at "eval Name") => `(tactic| ((with_reducible show wpAny _ _ (eval (Expr.Name _ _) (envOfC _ _ _ _ _)) _ _ _); refine' wpAny_Name (wpAny_loadName_local rfl rfl ?hn ?hv ?_); (case hn => first | (with_reducible assumption) | assumption | exact Fr.ns (by assumption)); (case hv => walk_at "MLOOK")))
local macro_rules | `(tactic| walk_at "eval Name") => `(tactic| ((with_reducible show wpAny _ _ (eval (Expr.Name (Str.ofString "one") _) (envOfC _ _ _ _ _)) _ _ _); refine' wpAny_Name (wpAny_loadName_cell rfl rfl rfl ?hc ?_); (case hc => assumption)))
local macro_rules | `(tactic| walk_at "eval Name") => `(tactic| ((with_reducible show wpAny _ _ (eval (Expr.Name (Str.ofString "two") _) (envOfC _ _ _ _ _)) _ _ _); refine' wpAny_Name (wpAny_loadName_cell rfl rfl rfl ?hc ?_); (case hc => assumption)))
local macro_rules | `(tactic| walk_at "eval Name") => `(tactic| ((with_reducible show wpAny _ _ (eval (Expr.Name (Str.ofString "one") _) (compEnvC _ _ _ _)) _ _ _); refine' wpAny_Name (wpAny_loadName_cell rfl rfl rfl ?hc ?_); (case hc => assumption)))
local macro_rules | `(tactic| walk_at "eval Name") => `(tactic| ((with_reducible show wpAny _ _ (eval (Expr.Name (Str.ofString "two") _) (compEnvC _ _ _ _)) _ _ _); refine' wpAny_Name (wpAny_loadName_cell rfl rfl rfl ?hc ?_); (case hc => assumption)))
local macro_rules | `(tactic| walk_at "eval Name") => `(tactic| ((with_reducible show wpAny _ _ (eval (Expr.Name (Str.ofString "texts") _) (compEnvC _ _ _ _)) _ _ _); refine' wpAny_Name (wpAny_loadName_cell rfl rfl rfl ?hc ?_); (case hc => assumption)))
theorem fit1_any (a n : Nat) : ([0, (a : Int)].any (· == ((n % 5 : Nat) : Int))) = fit1 a n := by
  unfold fit1
  rw [Bool.eq_iff_iff]
  simp only [List.any_cons, List.any_nil, Bool.or_false, Bool.or_eq_true, beq_iff_eq]
  omega
theorem fit2_any (b n : Nat) : ([0, (b : Int)].any (· == ((n / 5 % 5 : Nat) : Int))) = fit2 b n := by
  unfold fit2
  rw [Bool.eq_iff_iff]
  simp only [List.any_cons, List.any_nil, Bool.or_false, Bool.or_eq_true, beq_iff_eq]
  omega
theorem isL_inj {h : Heap} {l : Addr} {vs ws : List Value} (x : IsL h l vs) (y : IsL h l ws) : vs = ws := by
  obtain ⟨e, x⟩ := x
  obtain ⟨e', y⟩ := y
  rw [x] at y
  have q : Data.seq vs.toArray e = Data.seq ws.toArray e' := congrArg Obj.data (Option.some.inj y)
  injection q with q1 q2
  simpa using congrArg Array.toList q1
theorem tup_ne_cell {h : Heap} {a b : Addr} {vs : Array Value} {e : Nat} {v : Option Value} (x : h.get? a = some { cls := .type "tuple", data := .seq vs e }) (y : h.IsCell b v) : a ≠ b := fun q => by
  obtain ⟨o, y, d⟩ := y
  rw [q, y] at x; cases x; cases d
theorem tup_ne_list {h : Heap} {a b : Addr} {vs : Array Value} {ws : List Value} {e : Nat} (x : h.get? a = some { cls := .type "tuple", data := .seq vs e }) (y : IsL h b ws) : a ≠ b := fun q => by
  obtain ⟨o, y⟩ := y
  rw [q, y] at x
  have q2 : Value.type "list" = Value.type "tuple" := congrArg Obj.cls (Option.some.inj x)
  exact absurd q2 (by decide)
theorem pair_at {h : Heap} {Z : Addr → Prop} {P0 P1 P2 P3 : Addr} {e0 e1 e2 e3 : Nat} {a0 b0 a1 b1 a2 b2 a3 b3 : Tok} (z0 : ¬ Z P0) (z1 : ¬ Z P1) (z2 : ¬ Z P2) (z3 : ¬ Z P3)
    (h0 : h.get? P0 = some { cls := .type "tuple", data := .seq #[.int 1 a0, .int 1 b0] e0 }) (h1 : h.get? P1 = some { cls := .type "tuple", data := .seq #[.int 1 a1, .int 2 b1] e1 })
    (h2 : h.get? P2 = some { cls := .type "tuple", data := .seq #[.int 2 a2, .int 1 b2] e2 }) (h3 : h.get? P3 = some { cls := .type "tuple", data := .seq #[.int 2 a3, .int 2 b3] e3 }) :
    ∀ (k : Nat) (v : Value), [Value.ref P0, Value.ref P1, Value.ref P2, Value.ref P3][k]? = some v → ∃ p a b ta tb e, v = .ref p ∧ ¬ Z p ∧ pairsL[k]? = some (a, b) ∧ (a = 1 ∨ a = 2) ∧ (b = 1 ∨ b = 2) ∧ h.get? p = some { cls := .type "tuple", data := .seq #[.int (a : Nat) ta, .int (b : Nat) tb] e }
  | 0, v, hv => by cases hv; exact ⟨_, 1, 1, _, _, _, rfl, z0, rfl, .inl rfl, .inl rfl, h0⟩
  | 1, v, hv => by cases hv; exact ⟨_, 1, 2, _, _, _, rfl, z1, rfl, .inl rfl, .inr rfl, h1⟩
  | 2, v, hv => by cases hv; exact ⟨_, 2, 1, _, _, _, rfl, z2, rfl, .inr rfl, .inl rfl, h2⟩
  | 3, v, hv => by cases hv; exact ⟨_, 2, 2, _, _, _, rfl, z3, rfl, .inr rfl, .inr rfl, h3⟩
  | k + 4, v, hv => by simp at hv
theorem law_all (w : World) {loose : List Str} {mg mb : Str → Option Value} (s : Shared) (l : Addr) (vs : List Value) (ns : List Int)
  (Q : Value → Shared → Prop)
  (X : (Mine.hd.heap_39 w.params).In s.heap) (T : TopRead Mine.hd.view_39 loose mg mb s.heap) (hL : s.heap.IsList l vs.toArray) (hI : IntsAre vs ns) (hlen : ns.length ≤ 63) (hg : AllBare s.gens)
  (hret : ∀ h' tk' g', (∀ b o, s.heap.get? b = some o → h'.get? b = some o) → AllBare g' → Q (.bool true) { s with heap := h', toks := tk', gens := g' }) :
    wpAny (model PySem.Challenge.rw_il0132_01.row.prog w) callerA (call (.ref 174) [.ref l]) Q NoE s := by
  revert X; k_fill; intro X
  refine wpAny_call ?_
  walk_at "MYENTERC"
  iterate 43 walk1
  rename_i hCC tkC oc2 oc1 ocT ocC dC2 dC1 dCT dCC LC hA lA hB oC dC tkA LT hCc lB hD oT dT L4 hE lC D2 ws2 hF hI2 hC2 hL2 lD D1 ws1 hG FG nG hI1 lE hk1 hk2 hk3 gg hI8 hL8 DR h1 tk1 F N oR
  obtain ⟨dn, hdn, hd100, hd14⟩ := drawn_nats ns
  rw [hdn] at hI8
  have hsz : ys.length = dn.length := by rw [hI8.length, List.length_map]
  obtain ⟨m0, F, hmd⟩ : ∃ m0, Fr s.heap s.heap.objs.size h1 m0 ∧ m0 (Str.ofString "drawn") = some (.ref DR) := ⟨_, F, if_pos rfl⟩
  have N := News.sub (l' := [(DR, LCg.lst ys), (LT, _), (LC, _), (s.heap.objs.size + 1 + 1 + 1 + 1, _), (s.heap.objs.size + 1 + 1 + 1, _), (s.heap.objs.size + 1 + 1, _), (s.heap.objs.size + 1, _)]) N (by
    intro p hp
    simp only [List.mem_cons, List.not_mem_nil, or_false] at hp ⊢
    rcases hp with rfl | rfl | rfl | rfl | rfl | rfl | rfl
    · exact .inl rfl
    · exact .inr (.inr (.inr (.inr (.inl rfl))))
    · exact .inr (.inr (.inr (.inr (.inr (.inl rfl)))))
    · exact .inr (.inr (.inr (.inr (.inr (.inr (.inl rfl))))))
    · exact .inr (.inr (.inr (.inr (.inr (.inr (.inr (.inl rfl)))))))
    · exact .inr (.inr (.inr (.inr (.inr (.inr (.inr (.inr (.inl rfl))))))))
    · exact .inr (.inr (.inr (.inr (.inr (.inr (.inr (.inr (.inr rfl)))))))))
  clear nG FG oR lE lD lC lB lA hL2 hC2 hI2 hI1 hL8 hk1 hk2 hk3 hdn
  obtain ⟨vT, hN, hTv⟩ : ∃ vT, (LT, W.listOf vT.toArray 0) = (LT, W.listOf #[_, _, _, _] 0) ∧ StrsAre vT textsL := ⟨[_, _, _, _], rfl, .cons _ _ (.cons _ _ (.cons _ _ (.cons _ _ .nil)))⟩
  rw [← hN] at N
  clear hN
  obtain ⟨vC, hN, hCv⟩ : ∃ vC, (LC, W.listOf vC.toArray 0) = (LC, W.listOf #[_, _, _, _, _] 0) ∧ StrsAre vC codesL := ⟨[_, _, _, _, _], rfl, .cons _ _ (.cons _ _ (.cons _ _ (.cons _ _ (.cons _ _ .nil))))⟩
  rw [← hN] at N
  clear hN
  refine compS_assign F N rfl (by with_unfolding_all rfl) rfl (by decide) rfl (by decide) rfl rfl ?_
  walk1
  have hdr : IsL h1 DR ys := ⟨_, (N _ (.head _)).1⟩
  refine comp_list (J := fun _ i zs _ => StrsAre zs ((dn.take i).map rowS)) rfl (Kp.refl _) hdr.list (by rw [List.size_toArray, hsz]; exact Nat.le_trans hd14 (by decide)) (by decide) (fun Z i zs h h' hJ _ => hJ) (fun _ _ => StrsAre.nil) ?_ ?_
  · intro Z i zs C h tk m₁ m' hi hJ hyl ⟨v, hv, hm'⟩ F2 N2 hkeep hlive
    subst hm'
    rw [List.getElem?_toArray] at hv
    obtain ⟨n, tn, rfl, hn⟩ := ints_nat hI8 hv
    clear F N
    have hT := IsL.news N2 (.tail _ (.head _))
    have hC := IsL.news N2 (.tail _ (.tail _ (.head _)))
    refine CompTurnOk.plain ?_
    iterate 8 walk1
    dsimp only
    rw [fmod5]
    obtain ⟨tc1, hc1⟩ := at_strs (d := Str.ofString "") hCv (k := n % 5) (by show n % 5 < 5; omega)
    refine item_listL hC.list (by omega) (by omega) hc1 ?_
    iterate 8 walk1
    dsimp only
    rw [fdiv5]
    walk1
    dsimp only
    rw [fmod5]
    obtain ⟨tc2, hc2⟩ := at_strs (d := Str.ofString "") hCv (k := n / 5 % 5) (by show n / 5 % 5 < 5; omega)
    refine item_listL hC.list (by omega) (by omega) hc2 ?_
    have lc1 : (codesL.getD (n % 5) (Str.ofString "")).length ≤ 2 := code_len _
    have lc2 : (codesL.getD (n / 5 % 5) (Str.ofString "")).length ≤ 2 := code_len _
    refine add_str (fun t5 k5 => ?_) (by have : sizeLine = 2 ^ 24 := rfl; omega)
    iterate 6 walk1
    dsimp only
    rw [fdiv25]
    have hn100 := hd100 n (List.mem_of_getElem? hn)
    obtain ⟨tc3, hc3⟩ := at_strs (d := Str.ofString "") hTv (k := n / 25) (by show n / 25 < 4; omega)
    refine item_listL hT.list (by omega) (by omega) hc3 ?_
    have lc3 : (textsL.getD (n / 25) (Str.ofString "")).length ≤ 3 := text_len _
    refine add_str (fun t6 k6 => ?_) (by rw [len_app]; have : sizeLine = 2 ^ 24 := rfl; omega)
    refine ⟨Kp.mk fun _ _ e => e, ?_⟩
    have htk : dn.take (i + 1) = dn.take i ++ [n] := by rw [List.take_add_one, hn]; rfl
    rw [htk, List.map_append]
    exact StrsAre.append' hJ (.cons _ _ .nil)
  · intro Z RW h2 tk2 rv hJ hrlen F2 N2 hkeep2 hRW0
    have hmd2 : (fun z => if z = Str.ofString "rows" then some (Value.ref RW) else m0 z) (Str.ofString "drawn") = some (.ref DR) := (if_neg (by decide)).trans hmd
    clear hdr F N hkeep2
    dsimp only
    iterate 23 walk1
    refine wpAny_For ?_
    iterate 35 walk1
    dsimp only
    rename_i LL hL0 iL MM hM0 iM PX hP0 iP hQ1 hQ2 hQ3 P0 hQ4 i0 P1 hQ5 i1 P2 hQ6 i2 P3 hQ7 i3 PL h3 F N iPL
    have q0 := N _ (.head _)
    have q1 := N _ (.tail _ (.head _))
    have q2 := N _ (.tail _ (.tail _ (.head _)))
    have q3 := N _ (.tail _ (.tail _ (.tail _ (.head _))))
    have q4 := N _ (.tail _ (.tail _ (.tail _ (.tail _ (.head _)))))
    have q6 := N _ (.tail _ (.tail _ (.tail _ (.tail _ (.tail _ (.tail _ (.head _)))))))
    have q7 := N _ (.tail _ (.tail _ (.tail _ (.tail _ (.tail _ (.tail _ (.tail _ (.head _))))))))
    have q8 := N _ (.tail _ (.tail _ (.tail _ (.tail _ (.tail _ (.tail _ (.tail _ (.tail _ (.head _)))))))))
    have q9 := N _ (.tail _ (.tail _ (.tail _ (.tail _ (.tail _ (.tail _ (.tail _ (.tail _ (.tail _ (.head _))))))))))
    have qA := N _ (.tail _ (.tail _ (.tail _ (.tail _ (.tail _ (.tail _ (.tail _ (.tail _ (.tail _ (.tail _ (.head _)))))))))))
    have qC := N _ (.tail _ (.tail _ (.tail _ (.tail _ (.tail _ (.tail _ (.tail _ (.tail _ (.tail _ (.tail _ (.tail _ (.tail _ (.head _)))))))))))))
    have qD := N _ (.tail _ (.tail _ (.tail _ (.tail _ (.tail _ (.tail _ (.tail _ (.tail _ (.tail _ (.tail _ (.tail _ (.tail _ (.tail _ (.head _))))))))))))))
    have qE := N _ (.tail _ (.tail _ (.tail _ (.tail _ (.tail _ (.tail _ (.tail _ (.tail _ (.tail _ (.tail _ (.tail _ (.tail _ (.tail _ (.tail _ (.head _)))))))))))))))
    dsimp only at q0 q1 q2 q3 q4 q6 q7 q8 q9 qA qC qD qE
    have hcT : h3.IsCell (s.heap.objs.size + 1 + 1) (some (.ref LT)) := ⟨oT, qE.1, dT⟩
    have hc1 : h3.IsCell (s.heap.objs.size + 1 + 1 + 1) _ := ⟨oc1, qD.1, dC1⟩
    have hc2 : h3.IsCell (s.heap.objs.size + 1 + 1 + 1 + 1) _ := ⟨oc2, qC.1, dC2⟩
    have lPL : IsL h3 PL [.ref P0, .ref P1, .ref P2, .ref P3] := ⟨_, q0.1⟩
    have lLL : IsL h3 LL [] := ⟨_, q7.1⟩
    have lMM : IsL h3 MM [] := ⟨_, q6.1⟩
    have lRW : IsL h3 RW rv := ⟨_, q8.1⟩
    have lDR : IsL h3 DR ys := ⟨_, q9.1⟩
    have lLT : IsL h3 LT vT := ⟨_, qA.1⟩
    have hrv : StrsAre rv (dn.map rowS) := by
      have := hJ
      rwa [List.size_toArray, hsz, List.take_length] at this
    have hsI : ∀ b o, h3.get? b = some o → b ≠ h3.objs.size := fun b o e => Nat.ne_of_lt (Heap.lt_size e)
    have nI : ∀ b vs, IsL h3 b vs → b ≠ h3.objs.size := fun b vs x => Nat.ne_of_lt x.size
    have nP : ∀ p vs e, h3.get? p = some { cls := .type "tuple", data := .seq vs e } → p ≠ s.heap.objs.size → ¬ Z1 s.heap.objs.size LL MM h3.objs.size p := fun p vs e q n => Z1.not n (tup_ne_cell q hc1) (tup_ne_cell q hc2) (tup_ne_list q lLL) (tup_ne_list q lMM) (hsI _ _ q)
    have nL : ∀ b vs, IsL h3 b vs → b ≠ s.heap.objs.size → b ≠ LL → b ≠ MM → ¬ Z1 s.heap.objs.size LL MM h3.objs.size b := fun b vs q n n1 n2 => Z1.not n (list_ne_cell q hc1) (list_ne_cell q hc2) n1 n2 (nI _ _ q)
    have zP0 := nP _ _ _ q4.1 q4.2.1
    have zP1 := nP _ _ _ q3.1 q3.2.1
    have zP2 := nP _ _ _ q2.1 q2.2.1
    have zP3 := nP _ _ _ q1.1 q1.2.1
    have zRW := nL _ _ lRW q8.2.1 (Nat.ne_of_lt iL.1) (Nat.ne_of_lt iM.2.1)
    have zDR := nL _ _ lDR q9.2.1 (Nat.ne_of_lt iL.2.1) (Nat.ne_of_lt iM.2.2.1)
    have zLT := nL _ _ lLT qA.2.1 (Nat.ne_of_lt iL.2.2.1) (Nat.ne_of_lt iM.2.2.2.1)
    have zPL := nL _ _ lPL q0.2.1 (Ne.symm (Nat.ne_of_lt iPL.2.2.2.2.2.2.1)) (Ne.symm (Nat.ne_of_lt iPL.2.2.2.2.2.1))
    have hI0 : s.heap.get? h3.objs.size = none := none_of_le (Nat.le_of_lt F.ns.lt)
    have zcT : ¬ Z1 s.heap.objs.size LL MM h3.objs.size (s.heap.objs.size + 1 + 1) := Z1.not qE.2.1 (Nat.ne_of_lt (Nat.lt_succ_self _)) (Nat.ne_of_lt (Nat.lt_succ_of_lt (Nat.lt_succ_self _))) (Ne.symm (list_ne_cell lLL hcT)) (Ne.symm (list_ne_cell lMM hcT)) (hsI _ _ qE.1)
    have A1 : WAp s.heap LL MM h3.objs.size := ⟨qD.2.2, qC.2.2, q7.2.2, q6.2.2, hI0, q7.2.1, q6.2.1, Ne.symm (Nat.ne_of_lt F.ns.lt), qD.2.1, qC.2.1, Nat.ne_of_lt (Nat.lt_succ_self _), Nat.ne_of_lt iM.1,
      list_ne_cell lLL hc1, list_ne_cell lLL hc2, list_ne_cell lMM hc1, list_ne_cell lMM hc2, Ne.symm (nI _ _ lLL), Ne.symm (nI _ _ lMM), Ne.symm (hsI _ _ qD.1), Ne.symm (hsI _ _ qC.1)⟩
    have hPk := pair_at zP0 zP1 zP2 zP3 q4.1 q3.1 q2.1 q1.1
    have Nm0 := LNm.of (RW := RW) (DR := DR) (LL := LL) (MM := MM) F (by walk_at "MLOOK") (by walk_at "MLOOK") (by walk_at "MLOOK") (by walk_at "MLOOK")
    obtain ⟨m1, F, Nm0⟩ : ∃ m1, Fr s.heap s.heap.objs.size h3 m1 ∧ LNm RW DR LL MM m1 := ⟨_, F, Nm0⟩
    have hcells : (∃ v, h3.IsCell (s.heap.objs.size + 1 + 1 + 1) v) ∧ ∃ v, h3.IsCell (s.heap.objs.size + 1 + 1 + 1 + 1) v := ⟨⟨_, hc1⟩, _, hc2⟩
    clear zP0 zP1 zP2 zP3 q0 q1 q2 q3 q4 q6 q7 q8 q9 qA qC qD qE nP nL hc1 hc2 iPL iL iM iP i0 i1 i2 i3 N
    refine wpAny_pyIter_list lPL.list ?_
    dsimp only
    generalize hh4 : h3.push { cls := .type "list_iterator", data := .fields #[.ref PL, .int 0 0] } = h4
    have k4 : ∀ b o, h3.get? b = some o → h4.get? b = some o := fun b o e => hh4 ▸ Heap.get?_push_of_some _ e
    have hit4 : h4.IsListIter h3.objs.size PL 0 := ⟨_, hh4 ▸ Heap.get?_push_size _ rfl, rfl, rfl⟩
    have W0 : W1 s.heap h4 LL MM PL RW DR h3.objs.size dn 0 0 m1 h4 := ⟨F.keeps k4, KZ.refl _ _, Nm0, let ⟨v, x⟩ := hcells.1; ⟨v, x.keeps k4⟩, let ⟨v, x⟩ := hcells.2; ⟨v, x.keeps k4⟩, ⟨[], lLL.keep k4, .nil⟩, ⟨[], lMM.keep k4, .nil⟩, hit4⟩
    have hcT := hcT.keeps k4
    have lPL := lPL.keep k4
    have lRW := lRW.keep k4
    have lDR := lDR.keep k4
    have lLT := lLT.keep k4
    have hPk : ∀ (k : Nat) (v : Value), [Value.ref P0, Value.ref P1, Value.ref P2, Value.ref P3][k]? = some v → ∃ p a b ta tb e, v = .ref p ∧ ¬ Z1 s.heap.objs.size LL MM h3.objs.size p ∧ pairsL[k]? = some (a, b) ∧ (a = 1 ∨ a = 2) ∧ (b = 1 ∨ b = 2) ∧ h4.get? p = some { cls := .type "tuple", data := .seq #[.int (a : Nat) ta, .int (b : Nat) tb] e } := fun k v hv =>
      let ⟨p, a, b, ta, tb, e, r1, r2, r3, r4, r5, r6⟩ := hPk k v hv
      ⟨p, a, b, ta, tb, e, r1, r2, r3, r4, r5, k4 _ _ r6⟩
    clear hcells lLL lMM F hsI nI hh4 k4 hit4 Nm0 hJ hrlen hmd2 hmd
    generalize h3.objs.size = I at *
    refine for_go 4 (fun k s' => ∃ h tk g m, s' = { s with heap := h, toks := tk, gens := g } ∧ AllBare g ∧ W1 s.heap h4 LL MM PL RW DR I dn k k m h) (fun _ => True) ?_ ?_ ?_
    · rintro k s' hk ⟨h, tk, g, m, rfl, hgb, W⟩
      have lPLh := KZ.list W.keep zPL lPL
      refine' (Walks.list (prog := PySem.Challenge.rw_il0132_01.row.prog) (w := w) ?hh I PL ?hne [Value.ref P0, Value.ref P1, Value.ref P2, Value.ref P3].toArray).item k _ _ _ ?a1 ?a2 ?a3
      case hh => rfl
      case hne => exact fun q => zPL (.inr (.inr (.inr (.inr (.inr q)))))
      case a1 => exact hk
      case a2 => exact ⟨W.it, lPLh.list⟩
      intro v h1 tk1 hv hst hk1
      dsimp only at hk1
      obtain ⟨p, a, b, ta, tb, e, rfl, zp, hpk, ha, hb, hp⟩ := hPk k v (by simpa using hv)
      have W1' := W.step A1 hst.1 (fun b o n e => hk1 b o (by simpa using n) e)
      have hp1 := W1'.keep _ _ zp hp
      show wpAny _ _ (letOwnedTupleGo (.Tuple _ _ _) _ _) _ _ _
      refine letOwned_list hst.1 ?_
      refine assign_Tuple_tuple (items := #[.int (a : Nat) ta, .int (b : Nat) tb]) rfl ⟨_, hp1, rfl, _, rfl⟩ rfl rfl fun h2 he2 => ?_
      dsimp only at he2 ⊢
      have W2 := W1'.frame A1 (W1'.F.ns.at' fun o e => he2 _ _ (Nat.ne_of_lt (Heap.lt_size e)) e) W1'.nm (fun b o _ e => he2 b o (Nat.ne_of_lt (Heap.lt_size e)) e)
      obtain ⟨v1, c1⟩ := W2.c1
      refine assignInOrder_cons (wpAny_assign_Name (wpAny_storeName_cell rfl rfl rfl c1 fun h3 hc3 hs3 => ?_))
      have W3 := W2.cell1 A1 hc3 (fun b o n e => hs3.extBut _ _ n e)
      obtain ⟨v2, c2⟩ := W3.c2
      refine assignInOrder_cons (wpAny_assign_Name (wpAny_storeName_cell rfl rfl rfl c2 fun h5 hc5 hs5 => ?_))
      have W5 := W3.cell2 A1 hc5 (fun b o n e => hs5.extBut _ _ n e)
      have hcA := hc3.sameBut hs5 A1.c12
      refine assignInOrder_nil ?_
      clear W W1' W2 W3 hk1 hst hv he2 hs3 hs5 c1 c2 hc3 hp1 lPLh
      have F5 := W5.F
      have lRW5 := KZ.list W5.keep zRW lRW
      have lDR5 := KZ.list W5.keep zDR lDR
      have n1 := W5.nm.rows
      have n2 := W5.nm.drawn
      have n3 := W5.nm.lists
      have n4 := W5.nm.marks
      dsimp only
      iterate 22 walk1
      refine ⟨X.keeps F5.keep, ?_⟩
      refine wp_AN (n := 500) rfl (Nat.le_of_ble_eq_true rfl) (Nat.le_of_ble_eq_true rfl) ?_
      refine restore w (loose := loose) (mg := mg) (mb := mb) _ RW (a : Nat) ta rv (dn.map rowS) _ (X.keeps F5.keep) (T.keeps F5.keep) lRW5 hrv (by omega) (by rw [List.length_map]; have : sizeLine = 2 ^ 24 := rfl; omega) (fun y hy => by obtain ⟨n, _, rfl⟩ := List.mem_map.mp hy; exact Nat.le_trans (row_len n) (by decide)) fun g1 h6 gens6 tk6 k6 rdy => ?_
      dsimp only at k6 ⊢
      iterate 1 walk1
      refine wp_AN (n := 500) rfl (Nat.le_of_ble_eq_true rfl) (Nat.le_of_ble_eq_true rfl) ?_
      refine rdy _ _ fun r7 zs7 h7 g7 tk7 k7 f7 l7 s7 b7 => ?_
      dsimp only at k7 f7 ⊢
      have gb7 := b7 hgb
      have F7 := F5.keeps k7
      have hcB := hc5.keeps k7
      clear rdy k6 b7
      iterate 3 walk1
      refine ⟨X.keeps F7.keep, ?_⟩
      refine wp_AN (n := 500) rfl (Nat.le_of_ble_eq_true rfl) (Nat.le_of_ble_eq_true rfl) ?_
      refine restore w (loose := loose) (mg := mg) (mb := mb) _ r7 (b : Nat) tb zs7 _ _ (X.keeps F7.keep) (T.keeps F7.keep) l7 s7 (by omega) ?_ ?_ fun g2 h8 gens8 tk8 k8 rdy => ?_
      · rw [told_first ha dn hd100, List.length_map]; exact Nat.le_trans (List.length_filter_le _ _) (by have : sizeLine = 2 ^ 24 := rfl; omega)
      · intro y hy
        rw [told_first ha dn hd100] at hy
        obtain ⟨n, _, rfl⟩ := List.mem_map.mp hy
        exact Nat.le_trans (row2_len n) (by decide)
      rw [told_twice ha hb dn hd100] at rdy
      dsimp only at k8 ⊢
      iterate 1 walk1
      refine wp_AN (n := 500) rfl (Nat.le_of_ble_eq_true rfl) (Nat.le_of_ble_eq_true rfl) ?_
      refine rdy _ _ fun r9 zs9 h9 g9 tk9 k9 f9 l9 s9 b9 => ?_
      dsimp only at k9 f9 ⊢
      have gb9 := b9 gb7
      have k59 : ∀ b o, h5.get? b = some o → h9.get? b = some o := fun b o e => k9 _ _ (k7 _ _ e)
      have W9 := W5.frame A1 (W5.F.ns.keeps k59) W5.nm (fun b o _ e => k59 b o e)
      have f59 : h5.get? r9 = none := by
        cases q : h5.get? r9 with
        | none => rfl
        | some o => have := k7 _ _ q; rw [f9] at this; cases this
      have c1 := hcA.keeps k59
      have c2 := hc5.keeps k59
      clear rdy k8 b9 F7 gb7 l7 s7 k7 f7 hcB k9 f9 hcA hc5 F5 lRW5 lDR5
      have rL := list_ne_ns l9 W9.F.ns
      refine wpAny_storeName_local rfl W9.F.ns (fun h10 hns10 hs10 => ?_) rfl
      dsimp only
      have kA : ∀ b o, b ≠ s.heap.objs.size → h9.get? b = some o → h10.get? b = some o := fun b o n e => hs10.extBut _ _ n e
      have W10 := W9.frame A1 hns10 (W9.nm.store (y := Str.ofString "told") (v := .ref r9) (by decide)) kA
      have lT10 : IsL h10 r9 zs9 := let ⟨e, q⟩ := l9; ⟨e, kA _ _ rL q⟩
      have lDR10 := KZ.list W10.keep zDR lDR
      have hTo : (fun z => if z = Str.ofString "told" then some (Value.ref r9) else m z) (Str.ofString "told") = some (.ref r9) := if_pos rfl
      have c1 : h10.IsCell _ _ := let ⟨o, q, r⟩ := c1; ⟨o, kA _ _ A1.c1L q, r⟩
      have c2 : h10.IsCell _ _ := let ⟨o, q, r⟩ := c2; ⟨o, kA _ _ A1.c2L q, r⟩
      have f10 : h5.get? r9 = none := f59
      have k510 : ∀ b o, b ≠ s.heap.objs.size → h5.get? b = some o → h10.get? b = some o := fun b o n e => kA _ _ n (k59 _ _ e)
      clear W9 kA hns10 hs10 l9 k59 f59
      obtain ⟨m10, W10, hTo⟩ : ∃ m10, W1 s.heap h4 LL MM PL RW DR I dn k (k + 1) m10 h10 ∧ m10 (Str.ofString "told") = some (.ref r9) := ⟨_, W10, hTo⟩
      have F10 := W10.F
      have n1 := W10.nm.rows
      have n2 := W10.nm.drawn
      have N10 : News s.heap s.heap.objs.size h10 [] := News.nil
      walk1
      refine compS_assign F10 N10 rfl (by with_unfolding_all rfl) rfl (by decide) rfl (by decide) rfl rfl ?_
      walk1
      refine comp_list (J := fun _ i zs _ => zs = ((dn.take i).map (markB a b)).map Value.bool) rfl (Kp.refl _) lDR10.list (by rw [List.size_toArray, hsz]; exact Nat.le_trans hd14 (by decide)) (by decide) (fun Z i zs h h' hJ _ => hJ) (fun _ _ => rfl) ?_ ?_
      · intro Z i zs C h tk m₁ m' hi hJ hyl ⟨v, hv, hm'⟩ F2 N2 hkeep hlive
        subst hm'
        rw [List.getElem?_toArray] at hv
        obtain ⟨n, tn, rfl, hn⟩ := ints_nat hI8 hv
        dsimp only at hkeep
        have c1' := c1.keeps hkeep
        have c2' := c2.keeps hkeep
        clear F10 N10 W10
        refine CompTurnOk.plain ?_
        iterate 6 walk1
        dsimp only
        rw [fmod5]
        iterate 4 walk1
        dsimp only
        refine wpAny_Name (wpAny_loadName_cell (c := s.heap.objs.size + 1 + 1 + 1) rfl rfl rfl c1' ?_)
        walk1
        refine wpAny_newTuple ?_ (Nat.le_of_ble_eq_true rfl)
        dsimp only
        generalize hHA : h.push { cls := .type "tuple", data := .seq (Value.int 0 _ :: [Value.int (a : Nat) ta]).toArray } = hA
        have kA : ∀ b o, h.get? b = some o → hA.get? b = some o := fun b o e => hHA ▸ Heap.get?_push_of_some _ e
        have htA : hA.get? h.objs.size = some { cls := .type "tuple", data := .seq _ } := hHA ▸ Heap.get?_push_size _ rfl
        have FA := F2.keeps kA
        have c2A := c2'.keeps kA
        clear hHA c1' c2' F2
        refine in_tuple_ints (ns := [0, (a : Int)]) ⟨_, htA, rfl, _, rfl⟩ (.cons _ _ (.cons _ _ .nil)) ?_
        rw [fit1_any]
        have htk : dn.take (i + 1) = dn.take i ++ [n] := by rw [List.take_add_one, hn]; rfl
        cases hf : fit1 a n with
        | false =>
          iterate 2 walk1
          refine ⟨Kp.mk kA, ?_⟩
          rw [htk, List.map_append, List.map_append, hJ]
          simp [markB, hf]
        | true =>
          iterate 2 walk1
          iterate 7 walk1
          dsimp only
          rw [fdiv5]
          iterate 2 walk1
          dsimp only
          rw [fmod5]
          iterate 4 walk1
          dsimp only
          refine wpAny_Name (wpAny_loadName_cell (c := s.heap.objs.size + 1 + 1 + 1 + 1) rfl rfl rfl c2A ?_)
          walk1
          refine wpAny_newTuple ?_ (Nat.le_of_ble_eq_true rfl)
          dsimp only
          generalize hHB : hA.push { cls := .type "tuple", data := .seq (Value.int 0 _ :: [Value.int (b : Nat) tb]).toArray } = hB
          have kB : ∀ b o, hA.get? b = some o → hB.get? b = some o := fun b o e => hHB ▸ Heap.get?_push_of_some _ e
          have htB : hB.get? hA.objs.size = some { cls := .type "tuple", data := .seq _ } := hHB ▸ Heap.get?_push_size _ rfl
          refine in_tuple_ints (ns := [0, (b : Int)]) ⟨_, htB, rfl, _, rfl⟩ (.cons _ _ (.cons _ _ .nil)) ?_
          rw [fit2_any]
          refine ⟨Kp.mk fun b o e => kB _ _ (kA _ _ e), ?_⟩
          rw [htk, List.map_append, List.map_append, hJ]
          simp [markB, hf]
      · intro Z MK h11 tk11 bs11 hJ hblen F11 N11 hkeep11 hMK0
        dsimp only at hkeep11 hMK0 ⊢
        rw [List.size_toArray, hsz, List.take_length] at hJ
        subst hJ
        have lMK : IsL h11 MK ((dn.map (markB a b)).map Value.bool) := ⟨_, (N11 _ (.head _)).1⟩
        have rL10 := list_ne_ns lT10 W10.F.ns
        have lT11 : IsL h11 r9 zs9 := let ⟨e, q⟩ := lT10; ⟨e, hkeep11 _ _ rL10 q⟩
        have zr9 := W5.fresh f10
        have zMK := W10.fresh hMK0
        have hTo11 := (if_neg (by decide) : (if Str.ofString "told" = Str.ofString "mark" then some (Value.ref MK) else m10 (Str.ofString "told")) = m10 (Str.ofString "told")).trans hTo
        have W11 := W10.frame A1 F11.ns (W10.nm.store (y := Str.ofString "mark") (v := .ref MK) (by decide)) hkeep11
        obtain ⟨m11, W11, hTo, hMk⟩ : ∃ m11, W1 s.heap h4 LL MM PL RW DR I dn k (k + 1) m11 h11 ∧ m11 (Str.ofString "told") = some (.ref r9) ∧ m11 (Str.ofString "mark") = some (.ref MK) := ⟨_, W11, hTo11, if_pos rfl⟩
        clear W10 F11 N11 F10 N10 lT10 lDR10 c1 c2 W5 k510 f10 hMK0 hkeep11 hTo11 rL10 hblen
        have F11 := W11.F
        have N11 : News s.heap s.heap.objs.size h11 [] := News.nil
        have n2 := W11.nm.drawn
        have n3 := W11.nm.lists
        have n4 := W11.nm.marks
        have lDR11 := KZ.list W11.keep zDR lDR
        have lT' := KZ.list W11.keep zLT lLT
        have cT := KZ.cell W11.keep zcT hcT
        iterate 4 walk1
        refine compS_eval F11 N11 rfl (by decide) rfl (by decide) ?_
        iterate 8 walk1
        refine comp_zip2 (J := fun _ i zs _ => StrsAre zs (toldS a b (dn.take i))) rfl (Kp.refl _) lDR11.list lMK.list (by rw [List.size_toArray, List.size_toArray, hsz, List.length_map, List.length_map]) (by rw [List.size_toArray, hsz]; exact Nat.le_trans hd14 (by decide)) (by decide) (fun Z i zs h h' hJ _ => hJ) (fun _ _ => StrsAre.nil) ?_ ?_
        · intro Z i zs C h tk m₁ m' hi hJ hyl ⟨v, v', hv, hv', hm'⟩ F2 N2 hkeep hlive
          subst hm'
          rw [List.getElem?_toArray] at hv hv'
          obtain ⟨n, tn, rfl, hn⟩ := ints_nat hI8 hv
          rw [List.getElem?_map, List.getElem?_map, hn] at hv'
          obtain rfl : Value.bool (markB a b n) = v' := Option.some.inj hv'
          dsimp only at hkeep
          have cT' := cT.keeps hkeep
          have lT2 := lT'.keep hkeep
          have htk : dn.take (i + 1) = dn.take i ++ [n] := by rw [List.take_add_one, hn]; rfl
          have hts : toldS a b (dn.take (i + 1)) = toldS a b (dn.take i) ++ (if markB a b n then [textAt (n / 25)] else []) := by
            unfold toldS
            rw [htk, List.filter_append, List.map_append, List.filter_cons, List.filter_nil]
            cases markB a b n <;> rfl
          clear F11 N11 W11
          refine CompTurnOk.one ?_
          iterate 3 walk1
          refine ⟨by walk_at "KP", ?_⟩
          cases hf : markB a b n with
          | false =>
            dsimp only
            rw [hts, hf]
            simpa using hJ
          | true =>
            dsimp only
            walk1
            refine wpAny_Name (wpAny_loadName_cell (c := s.heap.objs.size + 1 + 1) rfl rfl rfl cT' ?_)
            iterate 4 walk1
            dsimp only
            rw [fdiv25]
            have hn100 := hd100 n (List.mem_of_getElem? hn)
            obtain ⟨tc3, hc3⟩ := at_strs (d := Str.ofString "") hTv (k := n / 25) (by show n / 25 < 4; omega)
            refine item_listL lT2.list (by omega) (by omega) hc3 ?_
            refine ⟨Kp.mk fun _ _ e => e, ?_⟩
            rw [hts, hf]
            exact StrsAre.append' hJ (.cons _ _ .nil)
        · intro Z DC h12 tk12 zs12 hJ hlen12 F12 N12 hkeep12 hDC0
          rw [List.size_toArray, hsz, List.take_length] at hJ
          refine strs_ne (lT11.keep hkeep12) (IsL.news N12 (.head _)) s9 hJ (texts_ok _ _) (Nat.le_of_ble_eq_true rfl) ?_
          have W12 := W11.frame A1 (W11.F.ns.keeps hkeep12) W11.nm (fun b o _ e => hkeep12 b o e)
          have lT12 := lT11.keep hkeep12
          have lMK12 := lMK.keep hkeep12
          clear W11 F11 N11 F12 N12 hkeep12 lT11 lMK lDR11 lT' cT
          have F12 := W12.F
          iterate 7 walk1
          have hL4 : ((pairsL.take k).map fun p => toldS p.1 p.2 dn).length ≤ 4 := by
            rw [List.length_map, List.length_take]; exact Nat.min_le_right _ _
          have hM4 : ((pairsL.take k).map fun p => dn.map (markB p.1 p.2)).length ≤ 4 := by
            rw [List.length_map, List.length_take]; exact Nat.min_le_right _ _
          obtain ⟨tv, lTv, lsT⟩ := W12.L
          obtain ⟨mv, lMv, lsM⟩ := W12.M
          obtain ⟨eT, hTv12⟩ := id lTv
          refine getMethod_list_append hTv12 rfl rfl ?_
          iterate 4 walk1
          refine append_at hTv12 (fun h13 hs13 hL13 => ?_) (by rw [List.size_toArray, lsT.len]; exact Nat.le_trans hL4 (by decide))
          rw [List.push_toArray] at hL13
          have k13 : ∀ b o, b ≠ LL → h12.get? b = some o → h13.get? b = some o := fun b o n e => hs13.extBut _ _ n e
          have F13 : Fr s.heap s.heap.objs.size h13 m11 := ⟨W12.F.ns.at' fun o e => k13 _ _ (Ne.symm A1.lL) e, fun b o e => k13 _ _ (fun q => by rw [q, A1.l0] at e; cases e) (W12.F.keep _ _ e), W12.F.above⟩
          obtain ⟨eM, hMv12⟩ := id lMv
          have hMv13 := k13 _ _ (Ne.symm A1.lm) hMv12
          clear F12
          iterate 4 walk1
          refine getMethod_list_append hMv13 rfl rfl ?_
          iterate 4 walk1
          refine append_at hMv13 (fun h14 hs14 hM14 => ?_) (by rw [List.size_toArray, lsM.len]; exact Nat.le_trans hM4 (by decide))
          rw [List.push_toArray] at hM14
          refine wpAny_execs_nil ?_
          refine ⟨h14, _, g9, m11, rfl, gb9, ?_⟩
          exact W12.told A1 hpk zr9 lT12 s9 zMK lMK12 k13 (fun tv' q => by rw [← isL_inj lTv q]; exact ⟨_, hL13⟩) (fun b o n e => hs14.extBut _ _ n e) (fun mv' q => by rw [← isL_inj ⟨_, hMv13⟩ q]; exact ⟨_, hM14⟩)
    · rintro s' ⟨h, tk, g, m, rfl, hgb, W⟩
      have lPLh := KZ.list W.keep zPL lPL
      refine' (Walks.list (prog := PySem.Challenge.rw_il0132_01.row.prog) (w := w) ?hh I PL ?hne [Value.ref P0, Value.ref P1, Value.ref P2, Value.ref P3].toArray).done _ _ _ ?a1 ?a2
      case hh => rfl
      case hne => exact fun q => zPL (.inr (.inr (.inr (.inr (.inr q)))))
      case a1 => exact ⟨W.it, lPLh.list⟩
      intro h6 tk6 hk6
      delta NextThen
      dsimp only at hk6 ⊢
      have kI : ∀ b o, b ≠ I → h.get? b = some o → h6.get? b = some o := fun b o n e => hk6 b o (by simpa using n) e
      have nZI : ∀ b, ¬ Z1 s.heap.objs.size LL MM I b → b ≠ I := fun b n q => n (.inr (.inr (.inr (.inr (.inr q)))))
      have lDR6 : IsL h6 DR ys := let ⟨e, q⟩ := KZ.list W.keep zDR lDR; ⟨e, kI _ _ (nZI _ zDR) q⟩
      have lLT6 : IsL h6 LT vT := let ⟨e, q⟩ := KZ.list W.keep zLT lLT; ⟨e, kI _ _ (nZI _ zLT) q⟩
      have cT6 : h6.IsCell (s.heap.objs.size + 1 + 1) (some (.ref LT)) := let ⟨o, q, r⟩ := KZ.cell W.keep zcT hcT; ⟨o, kI _ _ (nZI _ zcT) q, r⟩
      obtain ⟨tv, lTv, lsT⟩ := W.L
      obtain ⟨mv, lMv, lsM⟩ := W.M
      have lTv6 : IsL h6 LL tv := let ⟨e, q⟩ := lTv; ⟨e, kI _ _ (Ne.symm A1.il) q⟩
      have lMv6 : IsL h6 MM mv := let ⟨e, q⟩ := lMv; ⟨e, kI _ _ (Ne.symm A1.im) q⟩
      have ls6 : LsAre h6 (fun b => b = s.heap.objs.size) tv (pairsL.map fun p => toldS p.1 p.2 dn) := lsT.keep (fun b o n e => kI _ _ (nZI _ n) e) fun b n q => n (.inl q)
      have ms6 : BsAre h6 (fun b => b = s.heap.objs.size) mv (pairsL.map fun p => dn.map (markB p.1 p.2)) := lsM.keep (fun b o n e => kI _ _ (nZI _ n) e) fun b n q => n (.inl q)
      have k0 : ∀ b o, s.heap.get? b = some o → h6.get? b = some o := fun b o e => kI _ _ (nZI _ (A1.old e)) (W.F.keep _ _ e)
      have ns6 : h6.Ns s.heap.objs.size m := W.F.ns.at' fun o e => kI _ _ (Ne.symm A1.iL) e
      have nm6 := W.nm
      have zDRL : DR ≠ s.heap.objs.size := fun q => zDR (.inl q)
      have zLTL : LT ≠ s.heap.objs.size := fun q => zLT (.inl q)
      have zcTL : s.heap.objs.size + 1 + 1 ≠ s.heap.objs.size := fun q => zcT (.inl q)
      have zLL := A1.lL
      have zMM := A1.mL
      clear lPLh W0 hPk hrv zRW zPL hI0 zcT A1 lPL lRW lDR lLT hcT zDR zLT kI nZI hk6 lsT lsM lTv lMv W
      have F6 : Fr s.heap s.heap.objs.size h6 m := ⟨ns6, k0, Nat.le_refl _⟩
      iterate 1 walk1
      refine wpAny_For ?_
      iterate 6 walk1
      refine call_range_1 ?_
      dsimp only
      have hrs : Builtin.Range.rangeSize 0 4 1 = 4 := by decide
      have hsm : Builtin.Range.small 0 4 1 = true := by decide
      refine wpAny_pyIter_range (IsRange.new h6 _ _ _ _ _ _) hsm ?_
      dsimp only
      rw [hrs]
      generalize hH7 : (h6.push { cls := .type "range", data := .fields #[.int 0 _, .int 4 _, .int 1 _] }) = h7r
      have z7 : h7r.objs.size = h6.objs.size + 1 := by rw [← hH7, Heap.size_push]
      have k7r : ∀ b o, h6.get? b = some o → h7r.get? b = some o := fun b o e => hH7 ▸ Heap.get?_push_of_some _ e
      generalize hH8 : h7r.push { cls := .type "range_iterator", data := .fields #[rawInt 0, rawInt 4, rawInt 1] } = h7
      have k7 : ∀ b o, h6.get? b = some o → h7.get? b = some o := fun b o e => hH8 ▸ Heap.get?_push_of_some _ (k7r b o e)
      have hi7 : IsRangeIter h7 h7r.objs.size 0 4 1 := hH8 ▸ Heap.get?_push_size _ rfl
      have p0 : h6.get? h7r.objs.size = none := none_of_le (by rw [z7]; exact Nat.le_succ _)
      have pL : h7r.objs.size ≠ s.heap.objs.size := fun q => by
        obtain ⟨_, _, _, e, _⟩ := ns6
        rw [q] at p0; rw [p0] at e; cases e
      clear hH7 hH8 k7r
      generalize h7r.objs.size = Ip at *
      have ns7 : h7.Ns s.heap.objs.size m := ns6.keeps k7
      refine for_go 4 (fun k s' => ∃ h tk m, s' = { s with heap := h, toks := tk, gens := g } ∧ KL s.heap.objs.size h6 h ∧ h.Ns s.heap.objs.size m ∧ LNm RW DR LL MM m ∧ IsRangeIter h Ip (k : Int) (4 - (k : Int)) 1) (fun _ => True) ?_ ?_ ?_
      · rintro k s' hk ⟨h, tk, m, rfl, K, hns, nm, hit⟩
        refine wpAny_pyNext_range_item hit (by omega) fun h1 hi1 hs1 => ?_
        show wpAny _ _ (letOwnedTupleGo (.Name _ _) (.ref _) _) _ _ _
        refine wpAny_pure ?_
        have hns1 : h1.Ns s.heap.objs.size m := hns.at' fun o e => hs1.extBut _ _ (Ne.symm pL) e
        refine wpAny_assign_Name (wpAny_storeName_local rfl hns1 (fun h2 hnsP hs2 => ?_) rfl)
        have K2 : KL s.heap.objs.size h6 h2 := fun b o n e => hs2.extBut _ _ n (hs1.extBut _ _ (fun q => by rw [q, p0] at e; cases e) (K _ _ n e))
        have hi2 : IsRangeIter h2 Ip ((k + 1 : Nat) : Int) (4 - ((k + 1 : Nat) : Int)) 1 := by
          have := hs2.extBut _ _ pL hi1
          have e1 : (k : Int) + 1 = ((k + 1 : Nat) : Int) := by omega
          have e2 : (4 : Int) - (k : Int) - 1 = 4 - ((k + 1 : Nat) : Int) := by omega
          rw [e1, e2] at this
          exact this
        have nm2 := nm.store (y := Str.ofString "p") (v := .int (k : Int) tk) (by decide)
        obtain ⟨m2, hns2, nm2, gp2⟩ : ∃ m2, h2.Ns s.heap.objs.size m2 ∧ LNm RW DR LL MM m2 ∧ m2 (Str.ofString "p") = some (.int (k : Int) tk) := ⟨_, hnsP, nm2, if_pos rfl⟩
        clear K hns nm hit hi1 hs1 hs2 hns1 hnsP
        have F2 : Fr s.heap s.heap.objs.size h2 m2 := ⟨hns2, fun b o e => K2 _ _ (Nat.ne_of_lt (Heap.lt_size e)) (k0 _ _ e), Nat.le_refl _⟩
        dsimp only
        iterate 1 walk1
        refine wpAny_For ?_
        iterate 6 walk1
        refine call_range_1 ?_
        dsimp only
        refine wpAny_pyIter_range (IsRange.new h2 _ _ _ _ _ _) hsm ?_
        dsimp only
        rw [hrs]
        generalize hH7 : (h2.push { cls := .type "range", data := .fields #[.int 0 _, .int 4 _, .int 1 _] }) = h3r
        have z3 : h3r.objs.size = h2.objs.size + 1 := by rw [← hH7, Heap.size_push]
        have k3r : ∀ b o, h2.get? b = some o → h3r.get? b = some o := fun b o e => hH7 ▸ Heap.get?_push_of_some _ e
        generalize hH8 : h3r.push { cls := .type "range_iterator", data := .fields #[rawInt 0, rawInt 4, rawInt 1] } = h3
        have k3 : ∀ b o, h2.get? b = some o → h3.get? b = some o := fun b o e => hH8 ▸ Heap.get?_push_of_some _ (k3r b o e)
        have hi3 : IsRangeIter h3 h3r.objs.size 0 4 1 := hH8 ▸ Heap.get?_push_size _ rfl
        have q0 : h2.get? h3r.objs.size = none := none_of_le (by rw [z3]; exact Nat.le_succ _)
        have qL : h3r.objs.size ≠ s.heap.objs.size := fun q => by
          obtain ⟨_, _, _, e, _⟩ := hns2
          rw [q] at q0; rw [q0] at e; cases e
        clear hH7 hH8 k3r z3
        generalize h3r.objs.size = Iq at *
        refine for_go 4 (fun j s' => ∃ h tk m, s' = { s with heap := h, toks := tk, gens := g } ∧ KL s.heap.objs.size h2 h ∧ h.Ns s.heap.objs.size m ∧ LNm RW DR LL MM m ∧ (∃ t, m (Str.ofString "p") = some (.int (k : Int) t)) ∧ IsRangeIter h Iq (j : Int) (4 - (j : Int)) 1) (fun _ => True) ?_ ?_ ?_
        · rintro j s' hj ⟨h, tk, m, rfl, K, hns, nm, ⟨tp, gp⟩, hit⟩
          refine wpAny_pyNext_range_item hit (by omega) fun h1 hi1 hs1 => ?_
          show wpAny _ _ (letOwnedTupleGo (.Name _ _) (.ref _) _) _ _ _
          refine wpAny_pure ?_
          have hns1 : h1.Ns s.heap.objs.size m := hns.at' fun o e => hs1.extBut _ _ (Ne.symm qL) e
          refine wpAny_assign_Name (wpAny_storeName_local rfl hns1 (fun h5 hnsO hs5 => ?_) rfl)
          have K5 : KL s.heap.objs.size h2 h5 := fun b o n e => hs5.extBut _ _ n (hs1.extBut _ _ (fun q => by rw [q, q0] at e; cases e) (K _ _ n e))
          have hi5 : IsRangeIter h5 Iq ((j + 1 : Nat) : Int) (4 - ((j + 1 : Nat) : Int)) 1 := by
            have := hs5.extBut _ _ qL hi1
            have e1 : (j : Int) + 1 = ((j + 1 : Nat) : Int) := by omega
            have e2 : (4 : Int) - (j : Int) - 1 = 4 - ((j + 1 : Nat) : Int) := by omega
            rw [e1, e2] at this
            exact this
          have nm5 := nm.store (y := Str.ofString "q") (v := .int (j : Int) tk) (by decide)
          have gp5 := (if_neg (by decide) : (if Str.ofString "p" = Str.ofString "q" then some (Value.int (j : Int) tk) else m (Str.ofString "p")) = m (Str.ofString "p")).trans gp
          obtain ⟨m5, hns5, nm5, gp5, gq5⟩ : ∃ m5, h5.Ns s.heap.objs.size m5 ∧ LNm RW DR LL MM m5 ∧ m5 (Str.ofString "p") = some (.int (k : Int) tp) ∧ m5 (Str.ofString "q") = some (.int (j : Int) tk) := ⟨_, hnsO, nm5, gp5, if_pos rfl⟩
          clear K hns nm hit hi1 hs1 hs5 hns1 gp hnsO
          have K65 := K2.trans K5
          have F5 : Fr s.heap s.heap.objs.size h5 m5 := ⟨hns5, fun b o e => K65 _ _ (Nat.ne_of_lt (Heap.lt_size e)) (k0 _ _ e), Nat.le_refl _⟩
          have n2 := nm5.drawn
          have n3 := nm5.lists
          have n4 := nm5.marks
          dsimp only
          iterate 6 walk1
          by_cases hkj : k = j
          · rw [hkj, show (((j : Nat) : Int) != ((j : Nat) : Int)) = false from bne_self_eq_false _]
            iterate 3 walk1
            refine wpAny_execs_nil ?_
            refine wpAny_execs_nil ?_
            exact ⟨h5, _, m5, rfl, K5, hns5, nm5, ⟨tp, by rw [← hkj]; exact gp5⟩, hi5⟩
          · rw [show (((k : Nat) : Int) != ((j : Nat) : Int)) = true from bne_iff_ne.mpr (by omega)]
            obtain ⟨⟨a, b⟩, hpk⟩ : ∃ p, pairsL[k]? = some p := ⟨_, List.getElem?_eq_getElem hk⟩
            obtain ⟨⟨c, d⟩, hpj⟩ : ∃ p, pairsL[j]? = some p := ⟨_, List.getElem?_eq_getElem hj⟩
            obtain ⟨la, ua, hla, zla, lla, sla⟩ := ls6.at (i := k) (ys := toldS a b dn) (by rw [List.getElem?_map, hpk]; rfl)
            obtain ⟨lb, ub, hlb, zlb, llb, slb⟩ := ls6.at (i := j) (ys := toldS c d dn) (by rw [List.getElem?_map, hpj]; rfl)
            obtain ⟨ma, hma, zma, lma⟩ := ms6.at (i := k) (bs := dn.map (markB a b)) (by rw [List.getElem?_map, hpk]; rfl)
            obtain ⟨mb', hmb, zmb, lmb⟩ := ms6.at (i := j) (bs := dn.map (markB c d)) (by rw [List.getElem?_map, hpj]; rfl)
            have lDR5 := KL.list K65 zDRL lDR6
            have lMM5 := KL.list K65 zMM lMv6
            have lma5 := KL.list K65 zma lma
            have lmb5 := KL.list K65 zmb lmb
            have lT5 := KL.list K65 zLTL lLT6
            have cT5 := KL.cell K65 zcTL cT6
            have N5 : News s.heap s.heap.objs.size h5 [] := News.nil
            iterate 4 walk1
            refine compS_assign F5 N5 rfl (by with_unfolding_all rfl) rfl (by decide) rfl (by decide) rfl rfl ?_
            iterate 9 walk1
            refine item_listL lMM5.list (by omega) (by omega) (by rw [Int.toNat_natCast]; exact hma) ?_
            iterate 4 walk1
            refine item_listL lMM5.list (by omega) (by omega) (by rw [Int.toNat_natCast]; exact hmb) ?_
            iterate 1 walk1
            refine comp_zip3 (J := fun _ i zs _ => StrsAre zs (mineS (markB a b) (markB c d) (dn.take i))) rfl (Kp.refl _) lDR5.list lma5.list lmb5.list (by rw [List.size_toArray, List.size_toArray, hsz, List.length_map, List.length_map]) (by rw [List.size_toArray, List.size_toArray, hsz, List.length_map, List.length_map]) (by rw [List.size_toArray, hsz]; exact Nat.le_trans hd14 (by decide)) (by decide) (fun Z i zs h h' hJ _ => hJ) (fun _ _ => StrsAre.nil) ?_ ?_
            · intro Z i zs C h tk m₁ m' hi hJ hyl ⟨v, v', v'', hv, hv', hv'', hm'⟩ F2 N2 hkeep hlive
              subst hm'
              rw [List.getElem?_toArray] at hv hv' hv''
              obtain ⟨n, tn, rfl, hn⟩ := ints_nat hI8 hv
              rw [List.getElem?_map, List.getElem?_map, hn] at hv' hv''
              obtain ⟨f, hf⟩ : ∃ f, markB a b n = f := ⟨_, rfl⟩
              obtain ⟨gg, hg'⟩ : ∃ f, markB c d n = f := ⟨_, rfl⟩
              obtain rfl : Value.bool f = v' := by rw [← hf]; exact Option.some.inj hv'
              obtain rfl : Value.bool gg = v'' := by rw [← hg']; exact Option.some.inj hv''
              dsimp only at hkeep
              have cT' := cT5.keeps hkeep
              have lT2 := lT5.keep hkeep
              have htk : dn.take (i + 1) = dn.take i ++ [n] := by rw [List.take_add_one, hn]; rfl
              have hts : mineS (markB a b) (markB c d) (dn.take (i + 1)) = mineS (markB a b) (markB c d) (dn.take i) ++ (if (f && !gg) = true then [textAt (n / 25)] else []) := by
                unfold mineS
                rw [htk, List.filter_append, List.map_append, List.filter_cons, List.filter_nil, hf, hg']
                cases f <;> cases gg <;> rfl
              clear F5 N5 lDR5 lMM5 lma5 lmb5 hv' hv''
              refine CompTurnOk.one ?_
              iterate 3 walk1
              cases f with
              | false =>
                iterate 2 walk1
                refine ⟨by walk_at "KP", ?_⟩
                rw [hts]
                simpa using hJ
              | true =>
                iterate 6 walk1
                cases gg with
                | true =>
                  iterate 2 walk1
                  refine ⟨by walk_at "KP", ?_⟩
                  rw [hts]
                  simpa using hJ
                | false =>
                  iterate 3 walk1
                  refine ⟨by walk_at "KP", ?_⟩
                  dsimp only
                  walk1
                  refine wpAny_Name (wpAny_loadName_cell (c := s.heap.objs.size + 1 + 1) rfl rfl rfl cT' ?_)
                  iterate 4 walk1
                  dsimp only
                  rw [fdiv25]
                  have hn100 := hd100 n (List.mem_of_getElem? hn)
                  obtain ⟨tc3, hc3⟩ := at_strs (d := Str.ofString "") hTv (k := n / 25) (by show n / 25 < 4; omega)
                  refine item_listL lT2.list (by omega) (by omega) hc3 ?_
                  refine ⟨Kp.mk fun _ _ e => e, ?_⟩
                  rw [hts]
                  exact StrsAre.append' hJ (.cons _ _ .nil)
            · intro Z MI h8 tk8 zs8 hJ8 hlen8 F8 N8 hkeep8 hMI0
              rw [List.size_toArray, hsz, List.take_length] at hJ8
              try dsimp only at hkeep8 hMI0
              have nm8 := nm5.store (y := Str.ofString "mine") (v := .ref MI) (by decide)
              have lMI8 : IsL h8 MI zs8 := ⟨_, (N8 _ (.head _)).1⟩
              have zMI := (N8 _ (.head _)).2.1
              try dsimp only at zMI
              obtain ⟨m8, F8, nm8, gp8, gq8, gm8⟩ : ∃ m8, Fr s.heap s.heap.objs.size h8 m8 ∧ LNm RW DR LL MM m8 ∧ m8 (Str.ofString "p") = some (.int (k : Int) tp) ∧ (∃ t, m8 (Str.ofString "q") = some (.int (j : Int) t)) ∧ m8 (Str.ofString "mine") = some (.ref MI) := ⟨_, F8, nm8, (if_neg (by decide)).trans gp5, ⟨_, (if_neg (by decide)).trans gq5⟩, if_pos rfl⟩
              obtain ⟨tq, gq8⟩ := gq8
              have lDR8 := KL.list hkeep8 zDRL lDR5
              have lMM8 := KL.list hkeep8 zMM lMM5
              have lma8 := KL.list hkeep8 zma lma5
              have lmb8 := KL.list hkeep8 zmb lmb5
              have lT8 := KL.list hkeep8 zLTL lT5
              have cT8 := KL.cell hkeep8 zcTL cT5
              have K58 := K5.trans hkeep8
              have K68 := K65.trans hkeep8
              have hi8 : IsRangeIter h8 Iq ((j + 1 : Nat) : Int) (4 - ((j + 1 : Nat) : Int)) 1 := hkeep8 _ _ qL hi5
              clear F5 N5 N8 lDR5 lMM5 lma5 lmb5 lT5 cT5 hkeep8 nm5 gp5 gq5 hns5 hi5 hlen8 hMI0 K5 K65
              have N8 : News s.heap s.heap.objs.size h8 [] := News.nil
              have n2 := nm8.drawn
              have n3 := nm8.lists
              have n4 := nm8.marks
              iterate 1 walk1
              refine compS_assign F8 N8 rfl (by with_unfolding_all rfl) rfl (by decide) rfl (by decide) rfl rfl ?_
              iterate 9 walk1
              refine item_listL lMM8.list (by omega) (by omega) (by rw [Int.toNat_natCast]; exact hma) ?_
              iterate 4 walk1
              refine item_listL lMM8.list (by omega) (by omega) (by rw [Int.toNat_natCast]; exact hmb) ?_
              iterate 1 walk1
              refine comp_zip3 (J := fun _ i zs _ => StrsAre zs (mineS (markB c d) (markB a b) (dn.take i))) rfl (Kp.refl _) lDR8.list lma8.list lmb8.list (by rw [List.size_toArray, List.size_toArray, hsz, List.length_map, List.length_map]) (by rw [List.size_toArray, List.size_toArray, hsz, List.length_map, List.length_map]) (by rw [List.size_toArray, hsz]; exact Nat.le_trans hd14 (by decide)) (by decide) (fun Z i zs h h' hJ _ => hJ) (fun _ _ => StrsAre.nil) ?_ ?_
              · intro Z i zs C h tk m₁ m' hi hJ hyl ⟨v, v', v'', hv, hv', hv'', hm'⟩ F2 N2 hkeep hlive
                subst hm'
                rw [List.getElem?_toArray] at hv hv' hv''
                obtain ⟨n, tn, rfl, hn⟩ := ints_nat hI8 hv
                rw [List.getElem?_map, List.getElem?_map, hn] at hv' hv''
                obtain ⟨f, hf⟩ : ∃ f, markB a b n = f := ⟨_, rfl⟩
                obtain ⟨gg, hg'⟩ : ∃ f, markB c d n = f := ⟨_, rfl⟩
                obtain rfl : Value.bool f = v' := by rw [← hf]; exact Option.some.inj hv'
                obtain rfl : Value.bool gg = v'' := by rw [← hg']; exact Option.some.inj hv''
                dsimp only at hkeep
                have cT' := cT8.keeps hkeep
                have lT2 := lT8.keep hkeep
                have htk : dn.take (i + 1) = dn.take i ++ [n] := by rw [List.take_add_one, hn]; rfl
                have hts : mineS (markB c d) (markB a b) (dn.take (i + 1)) = mineS (markB c d) (markB a b) (dn.take i) ++ (if (gg && !f) = true then [textAt (n / 25)] else []) := by
                  unfold mineS
                  rw [htk, List.filter_append, List.map_append, List.filter_cons, List.filter_nil, hf, hg']
                  cases f <;> cases gg <;> rfl
                clear F8 N8 lDR8 lMM8 lma8 lmb8 hv' hv''
                refine CompTurnOk.one ?_
                iterate 3 walk1
                cases gg with
                | false =>
                  iterate 2 walk1
                  refine ⟨by walk_at "KP", ?_⟩
                  rw [hts]
                  simpa using hJ
                | true =>
                  iterate 6 walk1
                  cases f with
                  | true =>
                    iterate 2 walk1
                    refine ⟨by walk_at "KP", ?_⟩
                    rw [hts]
                    simpa using hJ
                  | false =>
                    iterate 3 walk1
                    refine ⟨by walk_at "KP", ?_⟩
                    dsimp only
                    walk1
                    refine wpAny_Name (wpAny_loadName_cell (c := s.heap.objs.size + 1 + 1) rfl rfl rfl cT' ?_)
                    iterate 4 walk1
                    dsimp only
                    rw [fdiv25]
                    have hn100 := hd100 n (List.mem_of_getElem? hn)
                    obtain ⟨tc3, hc3⟩ := at_strs (d := Str.ofString "") hTv (k := n / 25) (by show n / 25 < 4; omega)
                    refine item_listL lT2.list (by omega) (by omega) hc3 ?_
                    refine ⟨Kp.mk fun _ _ e => e, ?_⟩
                    rw [hts]
                    exact StrsAre.append' hJ (.cons _ _ .nil)
              · intro Z YO h9 tk9 zs9 hJ9 hlen9 F9 N9 hkeep9 hYO0
                rw [List.size_toArray, hsz, List.take_length] at hJ9
                try dsimp only at hkeep9 hYO0
                have nm9 := nm8.store (y := Str.ofString "yours") (v := .ref YO) (by decide)
                have lYO9 : IsL h9 YO zs9 := ⟨_, (N9 _ (.head _)).1⟩
                have zYO := (N9 _ (.head _)).2.1
                try dsimp only at zYO
                obtain ⟨m9, F9, nm9, gp9, gq9, gm9, gy9⟩ : ∃ m9, Fr s.heap s.heap.objs.size h9 m9 ∧ LNm RW DR LL MM m9 ∧ m9 (Str.ofString "p") = some (.int (k : Int) tp) ∧ m9 (Str.ofString "q") = some (.int (j : Int) tq) ∧ m9 (Str.ofString "mine") = some (.ref MI) ∧ m9 (Str.ofString "yours") = some (.ref YO) := ⟨_, F9, nm9, (if_neg (by decide)).trans gp8, (if_neg (by decide)).trans gq8, (if_neg (by decide)).trans gm8, if_pos rfl⟩
                have K59 := K58.trans hkeep9
                have K69 := K68.trans hkeep9
                have lMI9 := KL.list hkeep9 zMI lMI8
                have lTv9 := KL.list K69 zLL lTv6
                have lla9 := KL.list K69 zla lla
                have llb9 := KL.list K69 zlb llb
                have hi9 : IsRangeIter h9 Iq ((j + 1 : Nat) : Int) (4 - ((j + 1 : Nat) : Int)) 1 := hkeep9 _ _ qL hi8
                clear F8 N8 N9 lDR8 lMM8 lma8 lmb8 lT8 cT8 hkeep9 nm8 gp8 gq8 gm8 hi8 hlen9 hYO0 K58 K68 lMI8
                have n3 := nm9.lists
                iterate 11 walk1
                refine item_listL lTv9.list (by omega) (by omega) (by rw [Int.toNat_natCast]; exact hla) ?_
                iterate 4 walk1
                refine item_listL lTv9.list (by omega) (by omega) (by rw [Int.toNat_natCast]; exact hlb) ?_
                iterate 5 walk1
                refine ⟨X.keeps F9.keep, ?_⟩
                have nmL : ∀ b, b ≠ s.heap.objs.size → b ∉ [s.heap.objs.size] := fun b n q => n (List.mem_singleton.mp q)
                have inB : ∀ b o, s.heap.get? b = some o → (hideAll h9 [s.heap.objs.size]).get? b = some o := fun b o e => hideAll_get _ (F9.keep _ _ e) (nmL b (Nat.ne_of_lt (Heap.lt_size e)))
                have lB : ∀ b vs, b ≠ s.heap.objs.size → IsL h9 b vs → IsL (hideAll h9 [s.heap.objs.size]) b vs := fun b vs n q => let ⟨e, q⟩ := q; ⟨e, hideAll_get _ q (nmL b n)⟩
                have ns9 := F9.ns
                refine wp_AF (n := 401) (l := [_]) rfl rfl (Nat.le_of_ble_eq_true rfl) (Nat.le_of_ble_eq_true rfl) ?_
                refine law_pair w (loose := loose) (mg := mg) (mb := mb) _ [_] (hideAll h9 [s.heap.objs.size]) la lb MI YO ua ub zs8 zs9 (toldS a b dn) (toldS c d dn) (mineS (markB a b) (markB c d) dn) (mineS (markB c d) (markB a b) dn) _
                  (X.keeps inB) (T.keeps inB) (fun b o e => of_hideAll _ e) (Nat.le_of_eq (hideAll_size _ _)) (.cons (fun q => nomatch q) rfl ns9 (hideAll_none _ (.head _)) trivial)
                  (lB _ _ zla lla9) (lB _ _ zlb llb9) (lB _ _ zMI lMI9) (lB _ _ zYO lYO9) sla slb hJ8 hJ9
                  (Nat.le_trans (texts_len _ _) hd14) (Nat.le_trans (texts_len _ _) hd14) (Nat.le_trans (texts_len _ _) hd14) (Nat.le_trans (texts_len _ _) hd14)
                  (fun x hx => (List.mem_append.mp hx).elim (texts_ok _ _ x) (texts_ok _ _ x)) (fun x => counts_meet (markB a b) (markB c d) (fun n => textAt (n / 25)) x dn) fun h10 tk10 k10 u10 => ?_
                dsimp only at k10 u10 ⊢
                have K910 : KL s.heap.objs.size h9 h10 := fun b o n e => k10 b o (nmL b n) e
                have ns10 : h10.Ns s.heap.objs.size m9 := by
                  obtain ⟨oL, es', ep', hoL, r'⟩ := ns9
                  obtain ⟨sl, hsl⟩ := u10 _ _ (.head _) hoL
                  exact ⟨_, es', ep', hsl, r'⟩
                iterate 2 walk1
                refine wpAny_execs_nil ?_
                refine wpAny_execs_nil ?_
                refine wpAny_execs_nil ?_
                exact ⟨h10, _, m9, rfl, K59.trans K910, ns10, nm9, ⟨tp, gp9⟩, K910 _ _ qL hi9⟩
        · rintro s' ⟨h, tk, m, rfl, K, hns, nm, ⟨tp, gp⟩, hit⟩
          refine wpAny_pyNext_range_end rfl hit (by decide) fun h1 he1 => ?_
          delta NextThen
          dsimp only
          refine wpAny_execs_nil ?_
          have K1 : KL s.heap.objs.size h2 h1 := fun b o n e => he1 _ _ (fun q => by rw [q, q0] at e; cases e) (K _ _ n e)
          exact ⟨h1, _, m, rfl, K2.trans K1, hns.at' fun o e => he1 _ _ (Ne.symm qL) e, nm, K1 _ _ pL hi2⟩
        · exact ⟨h3, _, m2, rfl, fun b o _ e => k3 _ _ e, hns2.keeps k3, nm2, ⟨_, gp2⟩, hi3⟩
      · rintro s' ⟨h, tk, m, rfl, K, hns, nm, hit⟩
        refine wpAny_pyNext_range_end rfl hit (by decide) fun h1 he1 => ?_
        delta NextThen
        dsimp only
        have K1 : KL s.heap.objs.size h6 h1 := fun b o n e => he1 _ _ (fun q => by rw [q, p0] at e; cases e) (K _ _ n e)
        iterate 3 walk1
        exact hret h1 _ g (fun b o e => K1 _ _ (Nat.ne_of_lt (Heap.lt_size e)) (k0 _ _ e)) hgb
      · exact ⟨h7, _, m, rfl, fun b o _ e => k7 _ _ e, ns7, nm6, hi7⟩
    · exact ⟨h4, _, s.gens, m1, rfl, hg, W0⟩
  -- end

end

end Mine

theorem PySem.Challenge.cw_il0132_01_holds : PySem.Challenge.rw_il0132_01.Holds := by
  w_on
  o_law
  refine holds_open (q := Mine.hd.view_39) (loose := Mine.hd.loose) (Xt := fun s => xlAt Mine.hd.view_39 [] s && recOk (RowW.records PySem.Challenge.rw_il0132_01.row.toRowW) s) (XP := XL Mine.hd.view_39 []) (Yf := (kHook Mine.hd.heap_39 Mine.hd.addrs Mine.hd.keys).obs) (Ya := (kHook Mine.hd.heap_39 Mine.hd.addrs Mine.hd.keys).val) (YP := (kHook Mine.hd.heap_39 Mine.hd.addrs Mine.hd.keys).says) (N := 3374) Mine.hd.left (Hook.of _) (Hook.keeps _) (fun s e => xl_of s (Bool.and_eq_true_iff.mp e).1) XL.keeps (by rfl) (by rfl) (by rfl) (fun s e => recFacts_of (Bool.and_eq_true_iff.mp e).2) (by rfl) (by assumption) (by decide +kernel) ⟨rfl, rfl, rfl, rfl, rfl, by decide +kernel⟩ ?hw ?hc
  case hw => w_witness2
  case hc => 
    intro w s₀ s₁ mg mb G y fa o pm cd doc dV kV ho hd hcd hD hmg hg args vals as hpre hlay hrd hwl hlo
    have KX := kIn_of y
    refine Ground.open G ?_
    intro T B D TE TW
    have hfa : fa = 174 := by
      have e := mg_of (n := Str.ofString "law") (v := .ref 174) KX (topRead_of T).g (by first | k_is | kernel_rfl)
      have hm : mg (Str.ofString "law") = some (.ref fa) := hmg
      rw [e] at hm
      cases hm
      rfl
    subst hfa
    clear hD hcd hd ho hmg B D TE TW
    wrow_args hpre hlay hrd hwl hlo
    rename_i ns hs hlay0 hL1 hr1 hl2 as4 as3 l vs as0 hL ra w1 r0 hI hr hc2 hc1
    have hlen : ns.length ≤ 63 := by omega
    refine Mine.wp_noE (Mine.law_all w s₁ l vs ns _ KX (topRead_of T) hL hI hlen (by rw [hg]; intro q hq; simp at hq) fun h' tk' g' k hb => ?_)
    exact ⟨.inl ⟨.bool true, .bool true, [], rfl, fun _ => rfl, .bool true, by first | rfl | kernel_rfl | (with_unfolding_all rfl) | simp [OpenRow.claim], fun _ => ⟨List.nodup_nil, fun _ h => (nomatch h)⟩⟩, .of_keep k, rfl, hb⟩

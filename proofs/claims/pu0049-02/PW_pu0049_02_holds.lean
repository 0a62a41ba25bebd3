import PyProof.Rows.All
import Wide.All
import Open.Line
import Open.FastT9
import Open.Boot
import OpenK.KCell
import OpenK.KWalk
import Lean
import PySem.Challenge.RW_pu0049_02
open PySem PySem.W PyProof.Rows
set_option Elab.async false
set_option linter.unusedVariables false
set_option linter.unusedSimpArgs false
set_option genSizeOf false
set_option genInjectivity false
set_option maxRecDepth 100000
namespace Mine
abbrev nL : List Str := ["script", "row", "marks", "heads", "live", "last", "step", "mark", "came", "maker", "place", "late", "told", "ends"]
abbrev nC : List Str := ["steps", "chains", "names", "paths", "inner", "outer", "boxes", "v", "wishes", "reads", "stays", "alive"]
abbrev nG : List Str := ["len", "_law_steps", "_law_chains", "Headers", "zip", "_law_call", "range", "_modname", "_law_lay", "sorted", "_law_boxed", "max"]
theorem lb {a b : Nat} (h : Nat.ble a b = true) : a ≤ b := Nat.le_of_ble_eq_true h
noncomputable abbrev PW : Program:=PySem.Challenge.pw_pu0049_02
noncomputable def topSt (i : Nat) : Option Stmt:=PW.main.body[i]?
noncomputable def clsSt (i j : Nat) : Option Stmt:=match PW.main.body[i]? with
 | some (.ClassDef _ _ _ b ..)=>b[j]?
 | _=>none
noncomputable def defBody : Option Stmt → List Stmt
 | some (.FunctionDef _ _ b ..)=>b
 | _=>[]
noncomputable def defScope : Option Stmt → Scope
 | some (.FunctionDef _ _ _ _ _ _ sc ..)=>sc
 | _=>⟨.function,[],false,false,[]⟩
noncomputable def defParams : Option Stmt → Arguments
 | some (.FunctionDef _ p ..)=>p
 | _=>⟨[],[],none,[],[],none,[]⟩
noncomputable def fnO (nm qn : Str) (st : Option Stmt) (pm cd df kd : Value) : Obj :=
 { cls:=.type "function", dict:=none,data:=.func { name:=nm,qualname:=qn,params:=defParams st,body:=.stmts (defBody st),scope:=defScope st,globals:=mainGlobals,closure:=[],defaults:=df,kwdefaults:=kd,doc:=.none,pyModule:=pm,annotations:=none,code:=cd,closureTuple:=.none,builtins:=builtinsNs },slots:=#[] }
noncomputable def ob3 (P : Params) : Obj:={ cls:=.type "dict", dict:=none,data:=.dict #[⟨PyData.keyHash P "__name__", .str "__name__" 165,.str "law_pu0049_02" 692⟩,⟨PyData.keyHash P "__doc__", .str "__doc__" 166,.none⟩,⟨PyData.keyHash P "__package__", .str "__package__" 167,.none⟩,⟨PyData.keyHash P "__loader__", .str "__loader__" 168,.builtin "__main__.__loader__#opaqu\x65"⟩,⟨PyData.keyHash P "__spec__", .str "__spec__" 169,.none⟩,⟨PyData.keyHash P "__annotations__", .str "__annotations__" 170,.ref 6⟩,⟨PyData.keyHash P "__builtins__", .str "__builtins__" 171,.ref 4⟩,⟨PyData.keyHash P "__file__", .str "__file__" 173,.str "/claim/cut.py" 172⟩,⟨PyData.keyHash P "__cached__", .str "__cached__" 174,.none⟩,⟨PyData.keyHash P "_sre", .str "_sre" 275,.ref 12⟩,⟨PyData.keyHash P "_wall", .str "_wall" 288,.ref 38⟩,⟨PyData.keyHash P "tspecials", .str "tspecials" 324,.ref 43⟩,⟨PyData.keyHash P "_name_disallowed_re", .str "_name_disallowed_re" 350,.ref 48⟩,⟨PyData.keyHash P "_value_disallowed_re", .str "_value_disallowed_re" 384,.ref 53⟩,⟨PyData.keyHash P "_formatparam", .str "_formatparam" 394,.ref 61⟩,⟨PyData.keyHash P "Headers", .str "Headers" 552,.ref 182⟩,⟨PyData.keyHash P "sep", .str "sep" 554,.str "/" 553⟩,⟨PyData.keyHash P "_kind", .str "_kind" 565,.ref 193⟩,⟨PyData.keyHash P "_fspath", .str "_fspath" 574,.ref 200⟩,⟨PyData.keyHash P "splitext", .str "splitext" 586,.ref 207⟩,⟨PyData.keyHash P "_c_path", .str "_c_path" 599,.ref 214⟩,⟨PyData.keyHash P "_splitroot", .str "_splitroot" 608,.ref 221⟩,⟨PyData.keyHash P "basename", .str "basename" 616,.ref 228⟩,⟨PyData.keyHash P "_normpath", .str "_normpath" 631,.ref 235⟩,⟨PyData.keyHash P "normpath", .str "normpath" 639,.ref 242⟩,⟨PyData.keyHash P "_Ignore", .str "_Ignore" 681,.ref 265⟩,⟨PyData.keyHash P "_modname", .str "_modname" 691,.ref 276⟩,⟨PyData.keyHash P "_law_call", .str "_law_call" 699,.ref 281⟩,⟨PyData.keyHash P "_law_steps", .str "_law_steps" 705,.ref 286⟩,⟨PyData.keyHash P "_law_chains", .str "_law_chains" 711,.ref 291⟩,⟨PyData.keyHash P "_law_ahead", .str "_law_ahead" 717,.ref 296⟩,⟨PyData.keyHash P "_law_lay", .str "_law_lay" 732,.ref 303⟩,⟨PyData.keyHash P "_law_boxed", .str "_law_boxed" 738,.ref 308⟩,⟨PyData.keyHash P "law", .str "law" 744,.ref 313⟩] 34,slots:=#[] }
noncomputable def ob37 (_ : Params) : Obj:={ cls:=.type "code", dict:=none,data:=.fields #[.str "_wall" 282,.str "_wall" 283,.str "/claim/cut.py" 284,.int (2) 0,.int (1) 0,.int (0) 0,.int (0) 0,.int (3) 0,.ref 32,.bool true,.int (276) 0,.ref 33,.none,.ref 34,.ref 35,.ref 36,.int (286) 0,.int (2) 0,.str "/claim/cut.py" 287],slots:=#[] }
noncomputable def ob38 (_ : Params) : Obj:=fnO "_wall" "_wall" (topSt 1) (.str "__main__" 164) (.ref 37) (.none) (.none)
noncomputable def ob42 (_ : Params) : Obj:={ cls:=.type "tuple", dict:=none,data:=.seq #[.int (14) 0,.int (14) 0,.int (4) 0,.int (1) 0,.int (1) 0,.int (9) 0,.int (0) 0,.int (4227896069) 0,.int (939524097) 0,.int (0) 0,.int (0) 0,.int (0) 0,.int (0) 0,.int (0) 0,.int (0) 0,.int (13) 0,.int (11) 0,.int (9) 0,.int (0) 0,.int (4227896069) 0,.int (939524097) 0,.int (0) 0,.int (0) 0,.int (0) 0,.int (0) 0,.int (0) 0,.int (0) 0,.int (1) 0] 0,slots:=#[] }
noncomputable def ob43 (_ : Params) : Obj:={ cls:=.type "re.Pattern", dict:=none,data:=.fields #[.str "[ \\(\\)<>@,;:\\\\\"/\\[\\]\\?=]" 292,.int (32) 323,.int (0) 0,.none,.none,.ref 42,.int (0) 0],slots:=#[] }
noncomputable def ob47 (_ : Params) : Obj:={ cls:=.type "tuple", dict:=none,data:=.seq #[.int (14) 0,.int (10) 0,.int (4) 0,.int (1) 0,.int (1) 0,.int (22) 0,.int (0) 0,.int (31) 0,.int (16) 0,.int (127) 0,.int (0) 0,.int (13) 0,.int (7) 0,.int (22) 0,.int (0) 0,.int (31) 0,.int (16) 0,.int (127) 0,.int (0) 0,.int (1) 0] 0,slots:=#[] }
noncomputable def ob48 (_ : Params) : Obj:={ cls:=.type "re.Pattern", dict:=none,data:=.fields #[.str "[\\x00-\\x1F\\x7F]" 326,.int (32) 349,.int (0) 0,.none,.none,.ref 47,.int (0) 0],slots:=#[] }
noncomputable def ob52 (_ : Params) : Obj:={ cls:=.type "tuple", dict:=none,data:=.seq #[.int (14) 0,.int (14) 0,.int (4) 0,.int (1) 0,.int (1) 0,.int (9) 0,.int (4294966783) 0,.int (0) 0,.int (0) 0,.int (2147483648) 0,.int (0) 0,.int (0) 0,.int (0) 0,.int (0) 0,.int (0) 0,.int (13) 0,.int (11) 0,.int (9) 0,.int (4294966783) 0,.int (0) 0,.int (0) 0,.int (2147483648) 0,.int (0) 0,.int (0) 0,.int (0) 0,.int (0) 0,.int (0) 0,.int (1) 0] 0,slots:=#[] }
noncomputable def ob53 (_ : Params) : Obj:={ cls:=.type "re.Pattern", dict:=none,data:=.fields #[.str "[\\x00-\\x08\\x0A-\\x1F\\x7F]" 352,.int (32) 383,.int (0) 0,.none,.none,.ref 52,.int (0) 0],slots:=#[] }
noncomputable def ob54 (_ : Params) : Obj:={ cls:=.type "tuple", dict:=none,data:=.seq #[.none,.int (1) 385] 0,slots:=#[] }
noncomputable def ob60 (_ : Params) : Obj:={ cls:=.type "code", dict:=none,data:=.fields #[.str "_formatparam" 386,.str "_formatparam" 387,.str "/claim/cut.py" 388,.int (9) 0,.int (3) 0,.int (0) 0,.int (0) 0,.int (3) 0,.ref 55,.bool true,.int (276) 0,.ref 56,.none,.ref 57,.ref 58,.ref 59,.int (392) 0,.int (9) 0,.str "/claim/cut.py" 393],slots:=#[] }
noncomputable def ob61 (_ : Params) : Obj:=fnO "_formatparam" "_formatparam" (topSt 6) (.str "cpy313.wsgiref.headers" 289) (.ref 60) (.ref 54) (.none)
noncomputable def ob69 (_ : Params) : Obj:={ cls:=.type "tuple", dict:=none,data:=.seq #[.none] 0,slots:=#[] }
noncomputable def ob75 (_ : Params) : Obj:={ cls:=.type "code", dict:=none,data:=.fields #[.str "__init__" 407,.str "Headers.__init__" 408,.str "/claim/cut.py" 409,.int (20) 0,.int (2) 0,.int (0) 0,.int (0) 0,.int (3) 0,.ref 70,.bool true,.int (276) 0,.ref 71,.none,.ref 72,.ref 73,.ref 74,.int (414) 0,.int (20) 0,.str "/claim/cut.py" 415],slots:=#[] }
noncomputable def ob76 (_ : Params) : Obj:=fnO "__init__" "Headers.__init__" (clsSt 7 0) (.str "cpy313.wsgiref.headers" 289) (.ref 75) (.ref 69) (.none)
noncomputable def ob82 (_ : Params) : Obj:={ cls:=.type "code", dict:=none,data:=.fields #[.str "_convert_string_type" 417,.str "Headers._convert_string_type" 418,.str "/claim/cut.py" 419,.int (30) 0,.int (2) 0,.int (0) 0,.int (1) 0,.int (3) 0,.ref 77,.bool true,.int (276) 0,.ref 78,.none,.ref 79,.ref 80,.ref 81,.int (424) 0,.int (30) 0,.str "/claim/cut.py" 425],slots:=#[] }
noncomputable def ob83 (_ : Params) : Obj:=fnO "_convert_string_type" "Headers._convert_string_type" (clsSt 7 1) (.str "cpy313.wsgiref.headers" 289) (.ref 82) (.none) (.none)
noncomputable def ob89 (_ : Params) : Obj:={ cls:=.type "code", dict:=none,data:=.fields #[.str "__len__" 427,.str "Headers.__len__" 428,.str "/claim/cut.py" 429,.int (38) 0,.int (1) 0,.int (0) 0,.int (0) 0,.int (3) 0,.ref 84,.bool true,.int (276) 0,.ref 85,.none,.ref 86,.ref 87,.ref 88,.int (431) 0,.int (38) 0,.str "/claim/cut.py" 432],slots:=#[] }
noncomputable def ob90 (_ : Params) : Obj:=fnO "__len__" "Headers.__len__" (clsSt 7 2) (.str "cpy313.wsgiref.headers" 289) (.ref 89) (.none) (.none)
noncomputable def ob96 (_ : Params) : Obj:={ cls:=.type "code", dict:=none,data:=.fields #[.str "__setitem__" 434,.str "Headers.__setitem__" 435,.str "/claim/cut.py" 436,.int (41) 0,.int (3) 0,.int (0) 0,.int (0) 0,.int (3) 0,.ref 91,.bool true,.int (276) 0,.ref 92,.none,.ref 93,.ref 94,.ref 95,.int (440) 0,.int (41) 0,.str "/claim/cut.py" 441],slots:=#[] }
noncomputable def ob97 (_ : Params) : Obj:=fnO "__setitem__" "Headers.__setitem__" (clsSt 7 3) (.str "cpy313.wsgiref.headers" 289) (.ref 96) (.none) (.none)
noncomputable def ob101 (_ : Params) : Obj:={ cls:=.type "code", dict:=none,data:=.fields #[.str "__delitem__" 443,.str "Headers.__delitem__" 444,.str "/claim/cut.py" 445,.int (45) 0,.int (2) 0,.int (0) 0,.int (0) 0,.int (3) 0,.ref 98,.bool true,.int (276) 0,.ref 99,.none,.none,.none,.ref 100,.int (446) 0,.int (45) 0,.str "/claim/cut.py" 447],slots:=#[] }
noncomputable def ob102 (_ : Params) : Obj:=fnO "__delitem__" "Headers.__delitem__" (clsSt 7 4) (.str "cpy313.wsgiref.headers" 289) (.ref 101) (.none) (.none)
noncomputable def ob108 (_ : Params) : Obj:={ cls:=.type "code", dict:=none,data:=.fields #[.str "__getitem__" 449,.str "Headers.__getitem__" 450,.str "/claim/cut.py" 451,.int (49) 0,.int (2) 0,.int (0) 0,.int (0) 0,.int (3) 0,.ref 103,.bool true,.int (276) 0,.ref 104,.none,.ref 105,.ref 106,.ref 107,.int (454) 0,.int (49) 0,.str "/claim/cut.py" 455],slots:=#[] }
noncomputable def ob109 (_ : Params) : Obj:=fnO "__getitem__" "Headers.__getitem__" (clsSt 7 5) (.str "cpy313.wsgiref.headers" 289) (.ref 108) (.none) (.none)
noncomputable def ob115 (_ : Params) : Obj:={ cls:=.type "code", dict:=none,data:=.fields #[.str "__contains__" 457,.str "Headers.__contains__" 458,.str "/claim/cut.py" 459,.int (52) 0,.int (2) 0,.int (0) 0,.int (0) 0,.int (3) 0,.ref 110,.bool true,.int (276) 0,.ref 111,.none,.ref 112,.ref 113,.ref 114,.int (462) 0,.int (52) 0,.str "/claim/cut.py" 463],slots:=#[] }
noncomputable def ob116 (_ : Params) : Obj:=fnO "__contains__" "Headers.__contains__" (clsSt 7 6) (.str "cpy313.wsgiref.headers" 289) (.ref 115) (.none) (.none)
noncomputable def ob120 (_ : Params) : Obj:={ cls:=.type "code", dict:=none,data:=.fields #[.str "get_all" 465,.str "Headers.get_all" 466,.str "/claim/cut.py" 467,.int (55) 0,.int (2) 0,.int (0) 0,.int (0) 0,.int (3) 0,.ref 117,.bool true,.int (276) 0,.ref 118,.none,.none,.none,.ref 119,.int (468) 0,.int (55) 0,.str "/claim/cut.py" 469],slots:=#[] }
noncomputable def ob121 (_ : Params) : Obj:=fnO "get_all" "Headers.get_all" (clsSt 7 7) (.str "cpy313.wsgiref.headers" 289) (.ref 120) (.none) (.none)
noncomputable def ob122 (_ : Params) : Obj:={ cls:=.type "tuple", dict:=none,data:=.seq #[.none] 0,slots:=#[] }
noncomputable def ob128 (_ : Params) : Obj:={ cls:=.type "code", dict:=none,data:=.fields #[.str "get" 471,.str "Headers.get" 472,.str "/claim/cut.py" 473,.int (59) 0,.int (3) 0,.int (0) 0,.int (0) 0,.int (3) 0,.ref 123,.bool true,.int (276) 0,.ref 124,.none,.ref 125,.ref 126,.ref 127,.int (479) 0,.int (59) 0,.str "/claim/cut.py" 480],slots:=#[] }
noncomputable def ob129 (_ : Params) : Obj:=fnO "get" "Headers.get" (clsSt 7 8) (.str "cpy313.wsgiref.headers" 289) (.ref 128) (.ref 122) (.none)
noncomputable def ob133 (_ : Params) : Obj:={ cls:=.type "code", dict:=none,data:=.fields #[.str "keys" 482,.str "Headers.keys" 483,.str "/claim/cut.py" 484,.int (66) 0,.int (1) 0,.int (0) 0,.int (0) 0,.int (3) 0,.ref 130,.bool true,.int (276) 0,.ref 131,.none,.none,.none,.ref 132,.int (485) 0,.int (66) 0,.str "/claim/cut.py" 486],slots:=#[] }
noncomputable def ob134 (_ : Params) : Obj:=fnO "keys" "Headers.keys" (clsSt 7 9) (.str "cpy313.wsgiref.headers" 289) (.ref 133) (.none) (.none)
noncomputable def ob138 (_ : Params) : Obj:={ cls:=.type "code", dict:=none,data:=.fields #[.str "values" 488,.str "Headers.values" 489,.str "/claim/cut.py" 490,.int (69) 0,.int (1) 0,.int (0) 0,.int (0) 0,.int (3) 0,.ref 135,.bool true,.int (276) 0,.ref 136,.none,.none,.none,.ref 137,.int (491) 0,.int (69) 0,.str "/claim/cut.py" 492],slots:=#[] }
noncomputable def ob139 (_ : Params) : Obj:=fnO "values" "Headers.values" (clsSt 7 10) (.str "cpy313.wsgiref.headers" 289) (.ref 138) (.none) (.none)
noncomputable def ob145 (_ : Params) : Obj:={ cls:=.type "code", dict:=none,data:=.fields #[.str "items" 494,.str "Headers.items" 495,.str "/claim/cut.py" 496,.int (72) 0,.int (1) 0,.int (0) 0,.int (0) 0,.int (3) 0,.ref 140,.bool true,.int (276) 0,.ref 141,.none,.ref 142,.ref 143,.ref 144,.int (498) 0,.int (72) 0,.str "/claim/cut.py" 499],slots:=#[] }
noncomputable def ob146 (_ : Params) : Obj:=fnO "items" "Headers.items" (clsSt 7 11) (.str "cpy313.wsgiref.headers" 289) (.ref 145) (.none) (.none)
noncomputable def ob152 (_ : Params) : Obj:={ cls:=.type "code", dict:=none,data:=.fields #[.str "__repr__" 501,.str "Headers.__repr__" 502,.str "/claim/cut.py" 503,.int (75) 0,.int (1) 0,.int (0) 0,.int (0) 0,.int (3) 0,.ref 147,.bool true,.int (276) 0,.ref 148,.none,.ref 149,.ref 150,.ref 151,.int (505) 0,.int (75) 0,.str "/claim/cut.py" 506],slots:=#[] }
noncomputable def ob153 (_ : Params) : Obj:=fnO "__repr__" "Headers.__repr__" (clsSt 7 12) (.str "cpy313.wsgiref.headers" 289) (.ref 152) (.none) (.none)
noncomputable def ob157 (_ : Params) : Obj:={ cls:=.type "code", dict:=none,data:=.fields #[.str "__str__" 508,.str "Headers.__str__" 509,.str "/claim/cut.py" 510,.int (78) 0,.int (1) 0,.int (0) 0,.int (0) 0,.int (3) 0,.ref 154,.bool true,.int (276) 0,.ref 155,.none,.none,.none,.ref 156,.int (511) 0,.int (78) 0,.str "/claim/cut.py" 512],slots:=#[] }
noncomputable def ob158 (_ : Params) : Obj:=fnO "__str__" "Headers.__str__" (clsSt 7 13) (.str "cpy313.wsgiref.headers" 289) (.ref 157) (.none) (.none)
noncomputable def ob164 (_ : Params) : Obj:={ cls:=.type "code", dict:=none,data:=.fields #[.str "__bytes__" 514,.str "Headers.__bytes__" 515,.str "/claim/cut.py" 516,.int (81) 0,.int (1) 0,.int (0) 0,.int (0) 0,.int (3) 0,.ref 159,.bool true,.int (276) 0,.ref 160,.none,.ref 161,.ref 162,.ref 163,.int (518) 0,.int (81) 0,.str "/claim/cut.py" 519],slots:=#[] }
noncomputable def ob165 (_ : Params) : Obj:=fnO "__bytes__" "Headers.__bytes__" (clsSt 7 14) (.str "cpy313.wsgiref.headers" 289) (.ref 164) (.none) (.none)
noncomputable def ob171 (_ : Params) : Obj:={ cls:=.type "code", dict:=none,data:=.fields #[.str "setdefault" 521,.str "Headers.setdefault" 522,.str "/claim/cut.py" 523,.int (84) 0,.int (3) 0,.int (0) 0,.int (0) 0,.int (3) 0,.ref 166,.bool true,.int (276) 0,.ref 167,.none,.ref 168,.ref 169,.ref 170,.int (528) 0,.int (84) 0,.str "/claim/cut.py" 529],slots:=#[] }
noncomputable def ob172 (_ : Params) : Obj:=fnO "setdefault" "Headers.setdefault" (clsSt 7 15) (.str "cpy313.wsgiref.headers" 289) (.ref 171) (.none) (.none)
noncomputable def ob178 (_ : Params) : Obj:={ cls:=.type "code", dict:=none,data:=.fields #[.str "add_header" 531,.str "Headers.add_header" 532,.str "/claim/cut.py" 533,.int (92) 0,.int (3) 0,.int (0) 0,.int (0) 0,.int (11) 0,.ref 173,.bool true,.int (276) 0,.ref 174,.none,.ref 175,.ref 176,.ref 177,.int (541) 0,.int (92) 0,.str "/claim/cut.py" 542],slots:=#[] }
noncomputable def ob179 (_ : Params) : Obj:=fnO "add_header" "Headers.add_header" (clsSt 7 16) (.str "cpy313.wsgiref.headers" 289) (.ref 178) (.none) (.none)
noncomputable def ob181 (P : Params) : Obj:={ cls:=.type "dict", dict:=none,data:=.dict #[⟨PyData.keyHash P "__module__", .str "__module__" 402,.str "cpy313.wsgiref.headers" 289⟩,⟨PyData.keyHash P "__firstlineno__", .str "__firstlineno__" 406,.int (18) 405⟩,⟨PyData.keyHash P "__init__", .str "__init__" 416,.ref 76⟩,⟨PyData.keyHash P "_convert_string_type", .str "_convert_string_type" 426,.ref 83⟩,⟨PyData.keyHash P "__len__", .str "__len__" 433,.ref 90⟩,⟨PyData.keyHash P "__setitem__", .str "__setitem__" 442,.ref 97⟩,⟨PyData.keyHash P "__delitem__", .str "__delitem__" 448,.ref 102⟩,⟨PyData.keyHash P "__getitem__", .str "__getitem__" 456,.ref 109⟩,⟨PyData.keyHash P "__contains__", .str "__contains__" 464,.ref 116⟩,⟨PyData.keyHash P "get_all", .str "get_all" 470,.ref 121⟩,⟨PyData.keyHash P "get", .str "get" 481,.ref 129⟩,⟨PyData.keyHash P "keys", .str "keys" 487,.ref 134⟩,⟨PyData.keyHash P "values", .str "values" 493,.ref 139⟩,⟨PyData.keyHash P "items", .str "items" 500,.ref 146⟩,⟨PyData.keyHash P "__repr__", .str "__repr__" 507,.ref 153⟩,⟨PyData.keyHash P "__str__", .str "__str__" 513,.ref 158⟩,⟨PyData.keyHash P "__bytes__", .str "__bytes__" 520,.ref 165⟩,⟨PyData.keyHash P "setdefault", .str "setdefault" 530,.ref 172⟩,⟨PyData.keyHash P "add_header", .str "add_header" 543,.ref 179⟩,⟨PyData.keyHash P "__static_attributes__", .str "__static_attributes__" 545,.ref 180⟩,⟨PyData.keyHash P "__dict__", .str "__dict__" 547,.ref 183⟩,⟨PyData.keyHash P "__weakref__", .str "__weakref__" 549,.ref 184⟩,⟨PyData.keyHash P "__doc__", .str "__doc__" 550,.none⟩] 4,slots:=#[] }
noncomputable def ob182 (_ : Params) : Obj:={ cls:=.type "type", dict:=none,data:=.cls { name:="Headers", bases:=[.type "object"],mro:=[.ref 182,.type "object"],ns:=181,qualname:="Headers", hasDict:=true,slotNames:=[],subclasses:=[],abstract:=false,collection:=none,hasDel:=false },slots:=#[none,none,some (.str "Headers" 395),some (.str "Headers" 403),some (.builtin "object.__new__"),some (.bool true)] }
noncomputable def ob192 (_ : Params) : Obj:={ cls:=.type "code", dict:=none,data:=.fields #[.str "_kind" 557,.str "_kind" 558,.str "/claim/cut.py" 559,.int (107) 0,.int (2) 0,.int (0) 0,.int (0) 0,.int (3) 0,.ref 187,.bool true,.int (276) 0,.ref 188,.none,.ref 189,.ref 190,.ref 191,.int (563) 0,.int (107) 0,.str "/claim/cut.py" 564],slots:=#[] }
noncomputable def ob193 (_ : Params) : Obj:=fnO "_kind" "_kind" (topSt 10) (.str "os.path" 555) (.ref 192) (.none) (.none)
noncomputable def ob199 (_ : Params) : Obj:={ cls:=.type "code", dict:=none,data:=.fields #[.str "_fspath" 566,.str "_fspath" 567,.str "/claim/cut.py" 568,.int (128) 0,.int (2) 0,.int (0) 0,.int (0) 0,.int (3) 0,.ref 194,.bool true,.int (276) 0,.ref 195,.none,.ref 196,.ref 197,.ref 198,.int (572) 0,.int (128) 0,.str "/claim/cut.py" 573],slots:=#[] }
noncomputable def ob200 (_ : Params) : Obj:=fnO "_fspath" "_fspath" (topSt 11) (.str "os.path" 555) (.ref 199) (.none) (.none)
noncomputable def ob206 (_ : Params) : Obj:={ cls:=.type "code", dict:=none,data:=.fields #[.str "splitext" 575,.str "splitext" 576,.str "/claim/cut.py" 577,.int (133) 0,.int (1) 0,.int (0) 0,.int (0) 0,.int (3) 0,.ref 201,.bool true,.int (276) 0,.ref 202,.none,.ref 203,.ref 204,.ref 205,.int (584) 0,.int (133) 0,.str "/claim/cut.py" 585],slots:=#[] }
noncomputable def ob207 (_ : Params) : Obj:=fnO "splitext" "splitext" (topSt 12) (.str "os.path" 555) (.ref 206) (.none) (.none)
noncomputable def ob213 (_ : Params) : Obj:={ cls:=.type "code", dict:=none,data:=.fields #[.str "_c_path" 587,.str "_c_path" 588,.str "/claim/cut.py" 589,.int (146) 0,.int (5) 0,.int (0) 0,.int (0) 0,.int (3) 0,.ref 208,.bool true,.int (276) 0,.ref 209,.none,.ref 210,.ref 211,.ref 212,.int (597) 0,.int (146) 0,.str "/claim/cut.py" 598],slots:=#[] }
noncomputable def ob214 (_ : Params) : Obj:=fnO "_c_path" "_c_path" (topSt 13) (.str "os.path" 555) (.ref 213) (.none) (.none)
noncomputable def ob220 (_ : Params) : Obj:={ cls:=.type "code", dict:=none,data:=.fields #[.str "_splitroot" 600,.str "_splitroot" 601,.str "/claim/cut.py" 602,.int (157) 0,.int (1) 0,.int (0) 0,.int (0) 0,.int (3) 0,.ref 215,.bool true,.int (276) 0,.ref 216,.none,.ref 217,.ref 218,.ref 219,.int (606) 0,.int (157) 0,.str "/claim/cut.py" 607],slots:=#[] }
noncomputable def ob221 (_ : Params) : Obj:=fnO "_splitroot" "_splitroot" (topSt 14) (.str "os.path" 555) (.ref 220) (.none) (.none)
noncomputable def ob227 (_ : Params) : Obj:={ cls:=.type "code", dict:=none,data:=.fields #[.str "basename" 609,.str "basename" 610,.str "/claim/cut.py" 611,.int (166) 0,.int (1) 0,.int (0) 0,.int (0) 0,.int (3) 0,.ref 222,.bool true,.int (276) 0,.ref 223,.none,.ref 224,.ref 225,.ref 226,.int (614) 0,.int (166) 0,.str "/claim/cut.py" 615],slots:=#[] }
noncomputable def ob228 (_ : Params) : Obj:=fnO "basename" "basename" (topSt 15) (.str "os.path" 555) (.ref 227) (.none) (.none)
noncomputable def ob234 (_ : Params) : Obj:={ cls:=.type "code", dict:=none,data:=.fields #[.str "_normpath" 617,.str "_normpath" 618,.str "/claim/cut.py" 619,.int (170) 0,.int (1) 0,.int (0) 0,.int (0) 0,.int (3) 0,.ref 229,.bool true,.int (276) 0,.ref 230,.none,.ref 231,.ref 232,.ref 233,.int (629) 0,.int (170) 0,.str "/claim/cut.py" 630],slots:=#[] }
noncomputable def ob235 (_ : Params) : Obj:=fnO "_normpath" "_normpath" (topSt 16) (.str "os.path" 555) (.ref 234) (.none) (.none)
noncomputable def ob241 (_ : Params) : Obj:={ cls:=.type "code", dict:=none,data:=.fields #[.str "normpath" 632,.str "normpath" 633,.str "/claim/cut.py" 634,.int (189) 0,.int (0) 0,.int (0) 0,.int (0) 0,.int (15) 0,.ref 236,.bool true,.int (276) 0,.ref 237,.none,.ref 238,.ref 239,.ref 240,.int (637) 0,.int (189) 0,.str "/claim/cut.py" 638],slots:=#[] }
noncomputable def ob242 (_ : Params) : Obj:=fnO "normpath" "normpath" (topSt 17) (.str "os.path" 555) (.ref 241) (.none) (.none)
noncomputable def ob250 (_ : Params) : Obj:={ cls:=.type "tuple", dict:=none,data:=.seq #[.none,.none] 0,slots:=#[] }
noncomputable def ob254 (_ : Params) : Obj:={ cls:=.type "code", dict:=none,data:=.fields #[.str "__init__" 654,.str "_Ignore.__init__" 655,.str "/claim/cut.py" 656,.int (194) 0,.int (3) 0,.int (0) 0,.int (0) 0,.int (3) 0,.ref 251,.bool true,.int (276) 0,.ref 252,.none,.none,.none,.ref 253,.int (657) 0,.int (194) 0,.str "/claim/cut.py" 658],slots:=#[] }
noncomputable def ob255 (_ : Params) : Obj:=fnO "__init__" "_Ignore.__init__" (clsSt 19 0) (.str "cpy313.trace" 640) (.ref 254) (.ref 250) (.none)
noncomputable def ob261 (_ : Params) : Obj:={ cls:=.type "code", dict:=none,data:=.fields #[.str "names" 660,.str "_Ignore.names" 661,.str "/claim/cut.py" 662,.int (199) 0,.int (3) 0,.int (0) 0,.int (0) 0,.int (3) 0,.ref 256,.bool true,.int (276) 0,.ref 257,.none,.ref 258,.ref 259,.ref 260,.int (668) 0,.int (199) 0,.str "/claim/cut.py" 669],slots:=#[] }
noncomputable def ob262 (_ : Params) : Obj:=fnO "names" "_Ignore.names" (clsSt 19 1) (.str "cpy313.trace" 640) (.ref 261) (.none) (.none)
noncomputable def ob264 (P : Params) : Obj:={ cls:=.type "dict", dict:=none,data:=.dict #[⟨PyData.keyHash P "__module__", .str "__module__" 649,.str "cpy313.trace" 640⟩,⟨PyData.keyHash P "__firstlineno__", .str "__firstlineno__" 653,.int (192) 652⟩,⟨PyData.keyHash P "__init__", .str "__init__" 659,.ref 255⟩,⟨PyData.keyHash P "names", .str "names" 670,.ref 262⟩,⟨PyData.keyHash P "__static_attributes__", .str "__static_attributes__" 674,.ref 263⟩,⟨PyData.keyHash P "__dict__", .str "__dict__" 676,.ref 266⟩,⟨PyData.keyHash P "__weakref__", .str "__weakref__" 678,.ref 267⟩,⟨PyData.keyHash P "__doc__", .str "__doc__" 679,.none⟩] 4,slots:=#[] }
noncomputable def ob265 (_ : Params) : Obj:={ cls:=.type "type", dict:=none,data:=.cls { name:="_Ignore", bases:=[.type "object"],mro:=[.ref 265,.type "object"],ns:=264,qualname:="_Ignore", hasDict:=true,slotNames:=[],subclasses:=[],abstract:=false,collection:=none,hasDel:=false },slots:=#[none,none,some (.str "_Ignore" 642),some (.str "_Ignore" 650),some (.builtin "object.__new__"),some (.bool true)] }
noncomputable def ob275 (_ : Params) : Obj:={ cls:=.type "code", dict:=none,data:=.fields #[.str "_modname" 682,.str "_modname" 683,.str "/claim/cut.py" 684,.int (218) 0,.int (1) 0,.int (0) 0,.int (0) 0,.int (3) 0,.ref 270,.bool true,.int (276) 0,.ref 271,.none,.ref 272,.ref 273,.ref 274,.int (689) 0,.int (218) 0,.str "/claim/cut.py" 690],slots:=#[] }
noncomputable def ob276 (_ : Params) : Obj:=fnO "_modname" "_modname" (topSt 20) (.str "cpy313.trace" 640) (.ref 275) (.none) (.none)
noncomputable def ob280 (_ : Params) : Obj:={ cls:=.type "code", dict:=none,data:=.fields #[.str "_law_call" 694,.str "_law_call" 695,.str "/claim/cut.py" 696,.int (223) 0,.int (2) 0,.int (0) 0,.int (0) 0,.int (3) 0,.ref 277,.bool true,.int (276) 0,.ref 278,.none,.none,.none,.ref 279,.int (697) 0,.int (223) 0,.str "/claim/cut.py" 698],slots:=#[] }
noncomputable def ob281 (_ : Params) : Obj:=fnO "_law_call" "_law_call" (topSt 22) (.str "law_pu0049_02" 692) (.ref 280) (.none) (.none)
noncomputable def ob285 (_ : Params) : Obj:={ cls:=.type "code", dict:=none,data:=.fields #[.str "_law_steps" 700,.str "_law_steps" 701,.str "/claim/cut.py" 702,.int (225) 0,.int (1) 0,.int (0) 0,.int (0) 0,.int (3) 0,.ref 282,.bool true,.int (276) 0,.ref 283,.none,.none,.none,.ref 284,.int (703) 0,.int (225) 0,.str "/claim/cut.py" 704],slots:=#[] }
noncomputable def ob286 (_ : Params) : Obj:=fnO "_law_steps" "_law_steps" (topSt 23) (.str "law_pu0049_02" 692) (.ref 285) (.none) (.none)
noncomputable def ob290 (_ : Params) : Obj:={ cls:=.type "code", dict:=none,data:=.fields #[.str "_law_chains" 706,.str "_law_chains" 707,.str "/claim/cut.py" 708,.int (228) 0,.int (1) 0,.int (0) 0,.int (0) 0,.int (3) 0,.ref 287,.bool true,.int (276) 0,.ref 288,.none,.none,.none,.ref 289,.int (709) 0,.int (228) 0,.str "/claim/cut.py" 710],slots:=#[] }
noncomputable def ob291 (_ : Params) : Obj:=fnO "_law_chains" "_law_chains" (topSt 24) (.str "law_pu0049_02" 692) (.ref 290) (.none) (.none)
noncomputable def ob295 (_ : Params) : Obj:={ cls:=.type "code", dict:=none,data:=.fields #[.str "_law_ahead" 712,.str "_law_ahead" 713,.str "/claim/cut.py" 714,.int (237) 0,.int (3) 0,.int (0) 0,.int (0) 0,.int (3) 0,.ref 292,.bool true,.int (276) 0,.ref 293,.none,.none,.none,.ref 294,.int (715) 0,.int (237) 0,.str "/claim/cut.py" 716],slots:=#[] }
noncomputable def ob296 (_ : Params) : Obj:=fnO "_law_ahead" "_law_ahead" (topSt 25) (.str "law_pu0049_02" 692) (.ref 295) (.none) (.none)
noncomputable def ob302 (_ : Params) : Obj:={ cls:=.type "code", dict:=none,data:=.fields #[.str "_law_lay" 718,.str "_law_lay" 719,.str "/claim/cut.py" 720,.int (241) 0,.int (5) 0,.int (0) 0,.int (0) 0,.int (3) 0,.ref 297,.bool true,.int (276) 0,.ref 298,.none,.ref 299,.ref 300,.ref 301,.int (730) 0,.int (241) 0,.str "/claim/cut.py" 731],slots:=#[] }
noncomputable def ob303 (_ : Params) : Obj:=fnO "_law_lay" "_law_lay" (topSt 26) (.str "law_pu0049_02" 692) (.ref 302) (.none) (.none)
noncomputable def ob307 (_ : Params) : Obj:={ cls:=.type "code", dict:=none,data:=.fields #[.str "_law_boxed" 733,.str "_law_boxed" 734,.str "/claim/cut.py" 735,.int (250) 0,.int (5) 0,.int (0) 0,.int (0) 0,.int (3) 0,.ref 304,.bool true,.int (276) 0,.ref 305,.none,.none,.none,.ref 306,.int (736) 0,.int (250) 0,.str "/claim/cut.py" 737],slots:=#[] }
noncomputable def ob308 (_ : Params) : Obj:=fnO "_law_boxed" "_law_boxed" (topSt 27) (.str "law_pu0049_02" 692) (.ref 307) (.none) (.none)
noncomputable def ob312 (_ : Params) : Obj:={ cls:=.type "code", dict:=none,data:=.fields #[.str "law" 739,.str "law" 740,.str "/claim/cut.py" 741,.int (268) 0,.int (1) 0,.int (0) 0,.int (0) 0,.int (3) 0,.ref 309,.bool true,.int (276) 0,.ref 310,.none,.none,.none,.ref 311,.int (742) 0,.int (268) 0,.str "/claim/cut.py" 743],slots:=#[] }
noncomputable def ob313 (_ : Params) : Obj:=fnO "law" "law" (topSt 28) (.str "law_pu0049_02" 692) (.ref 312) (.none) (.none)
noncomputable def KF : Params → Frag:=fun P=>[(3,ob3 P),(37,ob37 P),(38,ob38 P),(42,ob42 P),(43,ob43 P),(47,ob47 P),(48,ob48 P),(52,ob52 P),(53,ob53 P),(54,ob54 P),(60,ob60 P),(61,ob61 P),(69,ob69 P),(75,ob75 P),(76,ob76 P),(82,ob82 P),(83,ob83 P),(89,ob89 P),(90,ob90 P),(96,ob96 P),(97,ob97 P),(101,ob101 P),(102,ob102 P),(108,ob108 P),(109,ob109 P),(115,ob115 P),(116,ob116 P),(120,ob120 P),(121,ob121 P),(122,ob122 P),(128,ob128 P),(129,ob129 P),(133,ob133 P),(134,ob134 P),(138,ob138 P),(139,ob139 P),(145,ob145 P),(146,ob146 P),(152,ob152 P),(153,ob153 P),(157,ob157 P),(158,ob158 P),(164,ob164 P),(165,ob165 P),(171,ob171 P),(172,ob172 P),(178,ob178 P),(179,ob179 P),(181,ob181 P),(182,ob182 P),(192,ob192 P),(193,ob193 P),(199,ob199 P),(200,ob200 P),(206,ob206 P),(207,ob207 P),(213,ob213 P),(214,ob214 P),(220,ob220 P),(221,ob221 P),(227,ob227 P),(228,ob228 P),(234,ob234 P),(235,ob235 P),(241,ob241 P),(242,ob242 P),(250,ob250 P),(254,ob254 P),(255,ob255 P),(261,ob261 P),(262,ob262 P),(264,ob264 P),(265,ob265 P),(275,ob275 P),(276,ob276 P),(280,ob280 P),(281,ob281 P),(285,ob285 P),(286,ob286 P),(290,ob290 P),(291,ob291 P),(295,ob295 P),(296,ob296 P),(302,ob302 P),(303,ob303 P),(307,ob307 P),(308,ob308 P),(312,ob312 P),(313,ob313 P)]
noncomputable def KA : List Addr:=[3,37,38,42,43,47,48,52,53,54,60,61,69,75,76,82,83,89,90,96,97,101,102,108,109,115,116,120,121,122,128,129,133,134,138,139,145,146,152,153,157,158,164,165,171,172,178,179,181,182,192,193,199,200,206,207,213,214,220,221,227,228,234,235,241,242,250,254,255,261,262,264,265,275,276,280,281,285,286,290,291,295,296,302,303,307,308,312,313]
noncomputable def myHook : Hook:=⟨List (Option Obj) × Bool,fun s=>(KA.map s.heap.get?,(s.heap.get? sysModules).isSome),fun w=>((KF w.params).map fun p=>some p.2,true),fun w h=>InK KF w h ∧ (h.get? sysModules).isSome = true,
 fun w s e=>⟨InK.of (K:=KF) (as:=KA) (fun _=>by kernel_rfl) w s (congrArg Prod.fst e),congrArg Prod.snd e⟩,
 fun w h h' x k=>⟨InK.keeps w h h' x.1 k,by obtain ⟨o,e⟩:=Option.isSome_iff_exists.mp x.2; rw [k _ _ e]; rfl⟩⟩
theorem chain_based {p : Program} {loose : List Str} {mean : ExcName → Option Value} {mg mb : Str → Option Value} {w : World} {h : Heap} (T : Top p loose mean mg mb h) {d : DefRec} (hf : (recsOf p).find? (fun e : DefRec=>e.name == ("_law_chains" : PySem.Str)) = some d) (KX : InK KF w h) : ∃ P0,Based h h 290 P0 #[]:=by
 have KX : (KF w.params).In h:=KX
 have e:=mg_of (n:="_law_chains") (v:=.ref 291) KX T.g (by kernel_rfl)
 obtain ⟨c,P,q1,q2⟩:=based_of_top T (name:="_law_chains") hf e (KX 291 (ob291 w.params) (by kernel_rfl)) rfl
 have q1 : Value.ref 290 = .ref c:=q1
 injection q1 with q1
 subst q1
 exact ⟨P,q2⟩
theorem list_well {P : Params} {h : Heap} {a : Addr} {vs : List Value} {xs : List WData} (w1 : Well P h (.ref a) (.list xs)) (hL : h.IsList a vs.toArray) : h.get? a = some { cls:=.type "list", data:=.seq vs.toArray 0 }:=by
 cases w1 with
 | list e1 e2 =>
  obtain ⟨o,q1,q2,n,q3⟩:=hL
  rw [e1] at q1; cases q1
  injection q3 with q3 q4
  have q3:=congrArg Array.toList q3
  rw [List.toList_toArray,List.toList_toArray] at q3
  subst q3
  exact e1
noncomputable def MainSays : Prop:=∀ (w : World) (s₁ : Shared) (mg mb : Str → Option Value) (fa a P0 : Addr) (vs : List Value) (script : List Int),InK KF w s₁.heap ∧ (s₁.heap.get? sysModules).isSome = true →
  s₁.heap.Ns mainGlobals mg → s₁.heap.Ns builtinsNs mb → s₁.heap.NoLimit → (∀ x : Str,x ≠ "__name__" → mb x = bootBuiltins x) →
  (∃ bm ob,mg "__builtins__" = some (.ref bm) ∧ bm ≠ builtinsNs ∧ s₁.heap.get? bm = some ob ∧ ob.cls = .type "module" ∧ ob.dict = some builtinsNs ∧ ob.data = .plain) →
  Based s₁.heap s₁.heap 290 P0 #[] → s₁.gens = #[] → mg "law" = some (.ref fa) → s₁.heap.get? a = some { cls:=.type "list", data:=.seq vs.toArray 0 } → IntsAre vs script → script.length ≤ 63 →
  wpAny (model PW w) callerA (call (.ref fa) [.ref a]) (fun v s'=>v = .bool true ∧ OldK s₁.heap s'.heap ∧ s'.os = s₁.os ∧ s'.gens = #[]) (fun _ _=>False) s₁
noncomputable def viewQ : Program:=view PW [0,1,3,4,5,7,8,10,11,12,13,14,15,16,17,19,20,22,23,24,25,26,27,28]
noncomputable def looseL : List Str:=["tspecials", "_name_disallowed_re", "_value_disallowed_re", "_formatparam"]
noncomputable def topX (s : Shared) : Bool:=xlAt viewQ [] s && recOk (RowW.records (OpenRow.toRowW PySem.Challenge.rw_pu0049_02.row)) s
noncomputable def hT (vs : List Value) (n : Nat) : Obj:={ cls:=.type "tuple", data:=.seq vs.toArray n }
noncomputable def hC (vs : List Value) : Obj:={ cls:=.type "code", data:=.fields vs.toArray }
noncomputable def hF (vs : List Value) : Obj:={ cls:=.none,data:=.fields vs.toArray }
noncomputable def hD (es : List DictEntry) (n : Nat) : Obj:={ cls:=.type "dict", data:=.dict es.toArray n }
noncomputable def hP (nm qn : Str) (st : Option Stmt) : Obj:={ cls:=.none,data:=.func { name:=nm,qualname:=qn,params:=defParams st,body:=.stmts (defBody st),scope:=defScope st,globals:=0,closure:=[],defaults:=.none,kwdefaults:=.none } }
noncomputable def hN (P : Params) (nm : Value) (k n : Nat) : Obj:=match (ob3 P).data with
 | .dict es _=>hD (⟨PyData.keyHash P "__name__", .str "__name__" 165,nm⟩ :: (es.toList.drop 1).take (k - 1)) n
 | _=>hF []
noncomputable def tb29 : List Value:=[.int (2) 0,.int (0) 0,.ref 37,.int (9) 0,.int (0) 0,.ref 60,.int (18) 0,.int (0) 0,.ref 67,.int (107) 0,.int (0) 0,.ref 192,.int (128) 0,.int (0) 0,.ref 199,.int (133) 0,.int (0) 0,.ref 206,.int (146) 0,.int (0) 0,.ref 213,.int (157) 0,.int (0) 0,.ref 220,.int (166) 0,.int (0) 0,.ref 227,.int (170) 0,.int (0) 0,.ref 234,.int (189) 0,.int (0) 0,.ref 241,.int (192) 0,.int (0) 0,.ref 248,.int (218) 0,.int (0) 0,.ref 275,.int (223) 0,.int (0) 0,.ref 280,.int (225) 0,.int (0) 0,.ref 285,.int (228) 0,.int (0) 0,.ref 290,.int (237) 0,.int (0) 0,.ref 295,.int (241) 0,.int (0) 0,.ref 302,.int (250) 0,.int (0) 0,.ref 307,.int (268) 0,.int (0) 0,.ref 312]
noncomputable def hL (P : Params) (o3 o29 : Obj) : List Obj:=[boot_o_0 P,hD [⟨PyData.keyHash P "builtins", .str "builtins" 162,.ref 4⟩,⟨PyData.keyHash P "__main__", .str "__main__" 163,.ref 5⟩,⟨PyData.keyHash P "_sre", .str "_sre" 244,.ref 12⟩] 3,{ cls:=.none,data:=.dict #[⟨PyData.keyHash P "\x69mport.loaded._sre", .str "\x69mport.loaded._sre" 183,.bool true⟩,⟨PyData.keyHash P "class._frozen_\x69mportlib.BuiltinImporter", .str "class._frozen_\x69mportlib.BuiltinImporter" 185,.ref 14⟩,⟨PyData.keyHash P "watched.\x69mport", .str "watched.\x69mport" 206,.ref 18⟩,⟨PyData.keyHash P "class._frozen_\x69mportlib.ModuleSpec", .str "class._frozen_\x69mportlib.ModuleSpec" 216,.ref 22⟩,⟨PyData.keyHash P "sys.modules.booked-epoch", .str "sys.modules.booked-epoch" 245,.int (3) 0⟩,⟨PyData.keyHash P "\x69mport.later-laid._sre", .str "\x69mport.later-laid._sre" 270,.bool true⟩,⟨PyData.keyHash P "watched.library", .str "watched.library" 272,.ref 27⟩,⟨PyData.keyHash P "watched.library-objects", .str "watched.library-objects" 0,.str ⟨#[12]⟩ 0⟩,⟨PyData.keyHash P "watched.library-deep._sre", .str "watched.library-deep._sre" 273,.str ⟨#[4,0,0,11,4,0,0,11,4,0,0,3,4,0,0,11,8,4,100,105,99,116,2]⟩ 0⟩] 9 },o3,{ cls:=.type "module", dict:=some 0,data:=.plain },{ cls:=.type "module", dict:=some 3,data:=.plain },hD [] 0,hT [] 0,hF [],hC [.str "<module>" 176,.str "<module>" 177,.str "/claim/cut.py" 178,.int (1) 0,.int (0) 0,.int (0) 0,.int (0) 0,.int (0) 0,.ref 7,.bool false,.int (175) 0,.ref 8,.none,.none,.none,.none,.int (179) 0,.int (1) 0,.str "/claim/cut.py" 180],{ cls:=.type "frame", data:=.plain,slots:=#[some (.ref 9),some (.ref 3),some (.ref 3),none,some (.str "__main__" 164),none,some (.ref 0)] },hD [⟨PyData.keyHash P "__name__", .str "__name__" 247,.str "_sre" 246⟩,⟨PyData.keyHash P "__doc__", .str "__doc__" 248,.none⟩,⟨PyData.keyHash P "__package__", .str "__package__" 250,.str "" 249⟩,⟨PyData.keyHash P "__loader__", .str "__loader__" 251,.builtin "off-the-table:_sre.__loader__:shared#opaqu\x65"⟩,⟨PyData.keyHash P "__spec__", .str "__spec__" 252,.builtin "off-the-table:_sre.__spec__:shared#opaqu\x65"⟩,⟨PyData.keyHash P "compile", .str "compile" 253,.builtin "_sre.compile"⟩,⟨PyData.keyHash P "template", .str "template" 254,.builtin "off-the-table:_sre.template:shared#opaqu\x65"⟩,⟨PyData.keyHash P "getcodesize", .str "getcodesize" 255,.builtin "off-the-table:_sre.getcodesize:shared#opaqu\x65"⟩,⟨PyData.keyHash P "ascii_iscased", .str "ascii_iscased" 256,.builtin "off-the-table:_sre.ascii_iscased:shared#opaqu\x65"⟩,⟨PyData.keyHash P "unicode_iscased", .str "unicode_iscased" 257,.builtin "off-the-table:_sre.unicode_iscased:shared#opaqu\x65"⟩,⟨PyData.keyHash P "ascii_tolower", .str "ascii_tolower" 258,.builtin "off-the-table:_sre.ascii_tolower:shared#opaqu\x65"⟩,⟨PyData.keyHash P "unicode_tolower", .str "unicode_tolower" 259,.builtin "off-the-table:_sre.unicode_tolower:shared#opaqu\x65"⟩,⟨PyData.keyHash P "MAGIC", .str "MAGIC" 261,.int (20230612) 260⟩,⟨PyData.keyHash P "CODESIZE", .str "CODESIZE" 263,.int (4) 262⟩,⟨PyData.keyHash P "MAXREPEAT", .str "MAXREPEAT" 265,.int (4294967295) 264⟩,⟨PyData.keyHash P "MAXGROUPS", .str "MAXGROUPS" 267,.int (1073741823) 266⟩,⟨PyData.keyHash P "copyright", .str "copyright" 269,.str " SRE 2.2.2 Copyright (c) 1997-2002 by Secret Labs AB " 268⟩] 17,{ cls:=.type "module", dict:=some 11,data:=.plain },hD [⟨PyData.keyHash P "__module__", .str "__module__" 189,.str "_frozen_\x69mportlib" 186⟩,⟨PyData.keyHash P "__firstlineno__", .str "__firstlineno__" 190,.int (971) 187⟩,⟨PyData.keyHash P "__doc__", .str "__doc__" 191,.builtin "_frozen_\x69mportlib.BuiltinImporter.__doc__:str#opaqu\x65"⟩,⟨PyData.keyHash P "_ORIGIN", .str "_ORIGIN" 192,.str "built-in" 188⟩,⟨PyData.keyHash P "find_spec", .str "find_spec" 193,.builtin "_frozen_\x69mportlib.BuiltinImporter.find_spec#opaqu\x65"⟩,⟨PyData.keyHash P "create_module", .str "create_module" 194,.builtin "_frozen_\x69mportlib.BuiltinImporter.create_module#opaqu\x65"⟩,⟨PyData.keyHash P "exec_module", .str "exec_module" 195,.builtin "_frozen_\x69mportlib.BuiltinImporter.exec_module#opaqu\x65"⟩,⟨PyData.keyHash P "get_code", .str "get_code" 196,.builtin "_frozen_\x69mportlib.BuiltinImporter.get_code#opaqu\x65"⟩,⟨PyData.keyHash P "get_source", .str "get_source" 197,.builtin "_frozen_\x69mportlib.BuiltinImporter.get_source#opaqu\x65"⟩,⟨PyData.keyHash P "is_package", .str "is_package" 198,.builtin "_frozen_\x69mportlib.BuiltinImporter.is_package#opaqu\x65"⟩,⟨PyData.keyHash P "load_module", .str "load_module" 199,.builtin "_frozen_\x69mportlib.BuiltinImporter.load_module#opaqu\x65"⟩,⟨PyData.keyHash P "__static_attributes__", .str "__static_attributes__" 200,.ref 15⟩,⟨PyData.keyHash P "__dict__", .str "__dict__" 202,.ref 16⟩,⟨PyData.keyHash P "__weakref__", .str "__weakref__" 204,.ref 17⟩] 14,{ cls:=.type "type", data:=.cls { name:="BuiltinImporter", bases:=[.type "object"],mro:=[.ref 14,.type "object"],ns:=13,qualname:="BuiltinImporter", hasDict:=true,slotNames:=[],subclasses:=[],abstract:=false,collection:=none,hasDel:=false } },hT [] 0,{ cls:=.type "getset_descriptor", data:=.fields #[.str "__dict__" 201,.ref 14,.builtin "function.__dict__", .builtin "function.__dict__#set"] },{ cls:=.type "getset_descriptor", data:=.fields #[.str "__weakref__" 203,.ref 14,.builtin "ExceptionGroup.__weakref__", .none] },{ cls:=.none,data:=.seq #[.int (13) 0,.str ⟨#[6,189,10,95,95,109,111,100,117,108,101,95,95,6,186,17,95,102,114,111,122,101,110,95,105,109,112,111,114,116,108,105,98,6,190,15,95,95,102,105,114,115,116,108,105,110,101,110,111,95,95,4,187,0,971,6,191,7,95,95,100,111,99,95,95,9,52,95,102,114,111,122,101,110,95,105,109,112,111,114,116,108,105,98,46,66,117,105,108,116,105,110,73,109,112,111,114,116,101,114,46,95,95,100,111,99,95,95,58,115,116,114,35,111,112,97,113,117,101,6,192,7,95,79,82,73,71,73,78,6,188,8,98,117,105,108,116,45,105,110,6,193,9,102,105,110,100,95,115,112,101,99,9,50,95,102,114,111,122,101,110,95,105,109,112,111,114,116,108,105,98,46,66,117,105,108,116,105,110,73,109,112,111,114,116,101,114,46,102,105,110,100,95,115,112,101,99,35,111,112,97,113,117,101,6,194,13,99,114,101,97,116,101,95,109,111,100,117,108,101,9,54,95,102,114,111,122,101,110,95,105,109,112,111,114,116,108,105,98,46,66,117,105,108,116,105,110,73,109,112,111,114,116,101,114,46,99,114,101,97,116,101,95,109,111,100,117,108,101,35,111,112,97,113,117,101,6,195,11,101,120,101,99,95,109,111,100,117,108,101,9,52,95,102,114,111,122,101,110,95,105,109,112,111,114,116,108,105,98,46,66,117,105,108,116,105,110,73,109,112,111,114,116,101,114,46,101,120,101,99,95,109,111,100,117,108,101,35,111,112,97,113,117,101,6,196,8,103,101,116,95,99,111,100,101,9,49,95,102,114,111,122,101,110,95,105,109,112,111,114,116,108,105,98,46,66,117,105,108,116,105,110,73,109,112,111,114,116,101,114,46,103,101,116,95,99,111,100,101,35,111,112,97,113,117,101,6,197,10,103,101,116,95,115,111,117,114,99,101,9,51,95,102,114,111,122,101,110,95,105,109,112,111,114,116,108,105,98,46,66,117,105,108,116,105,110,73,109,112,111,114,116,101,114,46,103,101,116,95,115,111,117,114,99,101,35,111,112,97,113,117,101,6,198,10,105,115,95,112,97,99,107,97,103,101,9,51,95,102,114,111,122,101,110,95,105,109,112,111,114,116,108,105,98,46,66,117,105,108,116,105,110,73,109,112,111,114,116,101,114,46,105,115,95,112,97,99,107,97,103,101,35,111,112,97,113,117,101,6,199,11,108,111,97,100,95,109,111,100,117,108,101,9,52,95,102,114,111,122,101,110,95,105,109,112,111,114,116,108,105,98,46,66,117,105,108,116,105,110,73,109,112,111,114,116,101,114,46,108,111,97,100,95,109,111,100,117,108,101,35,111,112,97,113,117,101,6,200,21,95,95,115,116,97,116,105,99,95,97,116,116,114,105,98,117,116,101,115,95,95,4,0,0,15,6,202,8,95,95,100,105,99,116,95,95,4,0,0,16,6,204,11,95,95,119,101,97,107,114,101,102,95,95,4,0,0,17]⟩ 0,.bool true,.bool true,.str "" 205,.int (21) 0,.str ⟨#[6,227,10,95,95,109,111,100,117,108,101,95,95,6,217,17,95,102,114,111,122,101,110,95,105,109,112,111,114,116,108,105,98,6,228,15,95,95,102,105,114,115,116,108,105,110,101,110,111,95,95,4,218,0,562,6,229,7,95,95,100,111,99,95,95,9,47,95,102,114,111,122,101,110,95,105,109,112,111,114,116,108,105,98,46,77,111,100,117,108,101,83,112,101,99,46,95,95,100,111,99,95,95,58,115,116,114,35,111,112,97,113,117,101,6,230,8,95,95,105,110,105,116,95,95,9,44,95,102,114,111,122,101,110,95,105,109,112,111,114,116,108,105,98,46,77,111,100,117,108,101,83,112,101,99,46,95,95,105,110,105,116,95,95,35,111,112,97,113,117,101,6,231,8,95,95,114,101,112,114,95,95,9,44,95,102,114,111,122,101,110,95,105,109,112,111,114,116,108,105,98,46,77,111,100,117,108,101,83,112,101,99,46,95,95,114,101,112,114,95,95,35,111,112,97,113,117,101,6,232,6,95,95,101,113,95,95,9,42,95,102,114,111,122,101,110,95,105,109,112,111,114,116,108,105,98,46,77,111,100,117,108,101,83,112,101,99,46,95,95,101,113,95,95,35,111,112,97,113,117,101,6,233,6,99,97,99,104,101,100,9,42,95,102,114,111,122,101,110,95,105,109,112,111,114,116,108,105,98,46,77,111,100,117,108,101,83,112,101,99,46,99,97,99,104,101,100,35,111,112,97,113,117,101,6,234,6,112,97,114,101,110,116,9,42,95,102,114,111,122,101,110,95,105,109,112,111,114,116,108,105,98,46,77,111,100,117,108,101,83,112,101,99,46,112,97,114,101,110,116,35,111,112,97,113,117,101,6,235,12,104,97,115,95,108,111,99,97,116,105,111,110,9,48,95,102,114,111,122,101,110,95,105,109,112,111,114,116,108,105,98,46,77,111,100,117,108,101,83,112,101,99,46,104,97,115,95,108,111,99,97,116,105,111,110,35,111,112,97,113,117,101,6,236,21,95,95,115,116,97,116,105,99,95,97,116,116,114,105,98,117,116,101,115,95,95,4,0,0,23,6,238,8,95,95,100,105,99,116,95,95,4,0,0,24,6,240,11,95,95,119,101,97,107,114,101,102,95,95,4,0,0,25,6,241,8,95,95,104,97,115,104,95,95,0]⟩ 0,.bool true,.bool true,.str "" 242] 1 },{ cls:=.type "list", data:=.seq #[] 0 },hD [⟨PyData.keyHash P "name", .str "name" 208,.str "_sre" 207⟩,⟨PyData.keyHash P "loader", .str "loader" 209,.ref 14⟩,⟨PyData.keyHash P "origin", .str "origin" 210,.str "built-in" 184⟩,⟨PyData.keyHash P "loader_state", .str "loader_state" 211,.none⟩,⟨PyData.keyHash P "submodule_search_locations", .str "submodule_search_locations" 212,.none⟩,⟨PyData.keyHash P "_uniniti\x61lized_submodules", .str "_uniniti\x61lized_submodules" 213,.ref 19⟩,⟨PyData.keyHash P "_set_fileattr", .str "_set_fileattr" 214,.bool false⟩,⟨PyData.keyHash P "_cached", .str "_cached" 215,.none⟩,⟨PyData.keyHash P "_initializing", .str "_initializing" 243,.bool false⟩] 9,hD [⟨PyData.keyHash P "__module__", .str "__module__" 227,.str "_frozen_\x69mportlib" 217⟩,⟨PyData.keyHash P "__firstlineno__", .str "__firstlineno__" 228,.int (562) 218⟩,⟨PyData.keyHash P "__doc__", .str "__doc__" 229,.builtin "_frozen_\x69mportlib.ModuleSpec.__doc__:str#opaqu\x65"⟩,⟨PyData.keyHash P "__init__", .str "__init__" 230,.builtin "_frozen_\x69mportlib.ModuleSpec.__init__#opaqu\x65"⟩,⟨PyData.keyHash P "__repr__", .str "__repr__" 231,.builtin "_frozen_\x69mportlib.ModuleSpec.__repr__#opaqu\x65"⟩,⟨PyData.keyHash P "__eq__", .str "__eq__" 232,.builtin "_frozen_\x69mportlib.ModuleSpec.__eq__#opaqu\x65"⟩,⟨PyData.keyHash P "cached", .str "cached" 233,.builtin "_frozen_\x69mportlib.ModuleSpec.cached#opaqu\x65"⟩,⟨PyData.keyHash P "parent", .str "parent" 234,.builtin "_frozen_\x69mportlib.ModuleSpec.parent#opaqu\x65"⟩,⟨PyData.keyHash P "has_location", .str "has_location" 235,.builtin "_frozen_\x69mportlib.ModuleSpec.has_location#opaqu\x65"⟩,⟨PyData.keyHash P "__static_attributes__", .str "__static_attributes__" 236,.ref 23⟩,⟨PyData.keyHash P "__dict__", .str "__dict__" 238,.ref 24⟩,⟨PyData.keyHash P "__weakref__", .str "__weakref__" 240,.ref 25⟩,⟨PyData.keyHash P "__hash__", .str "__hash__" 241,.none⟩] 13,{ cls:=.type "type", data:=.cls { name:="ModuleSpec", bases:=[.type "object"],mro:=[.ref 22,.type "object"],ns:=21,qualname:="ModuleSpec", hasDict:=true,slotNames:=[],subclasses:=[],abstract:=false,collection:=none,hasDel:=false } },hT [.str "_cached" 219,.str "_set_fileattr" 220,.str "_uniniti\x61lized_submodules" 221,.str "loader" 222,.str "loader_state" 223,.str "name" 224,.str "origin" 225,.str "submodule_search_locations" 226] 0,{ cls:=.type "getset_descriptor", data:=.fields #[.str "__dict__" 237,.ref 22,.builtin "function.__dict__", .builtin "function.__dict__#set"] },{ cls:=.type "getset_descriptor", data:=.fields #[.str "__weakref__" 239,.ref 22,.builtin "ExceptionGroup.__weakref__", .none] },{ cls:=.ref 22,dict:=some 20,data:=.plain },{ cls:=.none,data:=.seq #[.int (11) 0,.str ⟨#[6,247,8,95,95,110,97,109,101,95,95,6,246,4,95,115,114,101,6,248,7,95,95,100,111,99,95,95,0,6,250,11,95,95,112,97,99,107,97,103,101,95,95,6,249,0,6,251,10,95,95,108,111,97,100,101,114,95,95,4,0,0,14,6,252,8,95,95,115,112,101,99,95,95,4,0,0,26,6,253,7,99,111,109,112,105,108,101,9,12,95,115,114,101,46,99,111,109,112,105,108,101,6,254,8,116,101,109,112,108,97,116,101,9,13,95,115,114,101,46,116,101,109,112,108,97,116,101,6,255,11,103,101,116,99,111,100,101,115,105,122,101,9,16,95,115,114,101,46,103,101,116,99,111,100,101,115,105,122,101,6,256,13,97,115,99,105,105,95,105,115,99,97,115,101,100,9,18,95,115,114,101,46,97,115,99,105,105,95,105,115,99,97,115,101,100,6,257,15,117,110,105,99,111,100,101,95,105,115,99,97,115,101,100,9,20,95,115,114,101,46,117,110,105,99,111,100,101,95,105,115,99,97,115,101,100,6,258,13,97,115,99,105,105,95,116,111,108,111,119,101,114,9,18,95,115,114,101,46,97,115,99,105,105,95,116,111,108,111,119,101,114,6,259,15,117,110,105,99,111,100,101,95,116,111,108,111,119,101,114,9,20,95,115,114,101,46,117,110,105,99,111,100,101,95,116,111,108,111,119,101,114,6,261,5,77,65,71,73,67,4,260,0,20230612,6,263,8,67,79,68,69,83,73,90,69,4,262,0,4,6,265,9,77,65,88,82,69,80,69,65,84,4,264,0,4294967295,6,267,9,77,65,88,71,82,79,85,80,83,4,266,0,1073741823,6,269,9,99,111,112,121,114,105,103,104,116,6,268,53,32,83,82,69,32,50,46,50,46,50,32,67,111,112,121,114,105,103,104,116,32,40,99,41,32,49,57,57,55,45,50,48,48,50,32,98,121,32,83,101,99,114,101,116,32,76,97,98,115,32,65,66,32]⟩ 0,.bool true,.bool false,.str "_sre" 271] 0 },hT [] 0,o29,hC [.str "<module>" 277,.str "<module>" 278,.str "/claim/cut.py" 279,.int (1) 0,.int (0) 0,.int (0) 0,.int (0) 0,.int (0) 0,.ref 28,.bool false,.int (276) 0,.ref 29,.none,.none,.none,.none,.int (280) 0,.int (1) 0,.str "/claim/cut.py" 281],{ cls:=.type "frame", data:=.plain,slots:=#[some (.ref 30),some (.ref 3),some (.ref 3),none,some (.str "__main__" 164),none,some (.ref 0)] },hT [] 0,hF [],hT [.str "k" 285] 0,hT [] 0,hP "_wall" "_wall" (topSt 1),ob37 P,ob38 P,{ cls:=.type "list", data:=.seq #[.int (14) 294,.int (14) 295,.int (4) 296,.int (1) 297,.int (1) 298,.int (9) 299,.int (0) 300,.int (4227896069) 301,.int (939524097) 302,.int (0) 303,.int (0) 304,.int (0) 305,.int (0) 306,.int (0) 307,.int (0) 308,.int (13) 309,.int (11) 310,.int (9) 311,.int (0) 312,.int (4227896069) 313,.int (939524097) 314,.int (0) 315,.int (0) 316,.int (0) 317,.int (0) 318,.int (0) 319,.int (0) 320,.int (1) 321] 0 },hD [] 0,hT [.none] 0,ob42 P,ob43 P,{ cls:=.type "list", data:=.seq #[.int (14) 328,.int (10) 329,.int (4) 330,.int (1) 331,.int (1) 332,.int (22) 333,.int (0) 334,.int (31) 335,.int (16) 336,.int (127) 337,.int (0) 338,.int (13) 339,.int (7) 340,.int (22) 341,.int (0) 342,.int (31) 343,.int (16) 344,.int (127) 345,.int (0) 346,.int (1) 347] 0 },hD [] 0,hT [.none] 0,ob47 P,ob48 P,{ cls:=.type "list", data:=.seq #[.int (14) 354,.int (14) 355,.int (4) 356,.int (1) 357,.int (1) 358,.int (9) 359,.int (4294966783) 360,.int (0) 361,.int (0) 362,.int (2147483648) 363,.int (0) 364,.int (0) 365,.int (0) 366,.int (0) 367,.int (0) 368,.int (13) 369,.int (11) 370,.int (9) 371,.int (4294966783) 372,.int (0) 373,.int (0) 374,.int (2147483648) 375,.int (0) 376,.int (0) 377,.int (0) 378,.int (0) 379,.int (0) 380,.int (1) 381] 0 },hD [] 0,hT [.none] 0,ob52 P,ob53 P,ob54 P,hT [] 0,hF [],hT [.str "param" 389,.str "value" 390,.str "quote" 391] 0,hT [] 0,hP "_formatparam" "_formatparam" (topSt 6),ob60 P,ob61 P,hT [] 0,{ cls:=.type "builtin_function_or_method", data:=.fields #[.builtin "type.__prepare__", .type "type"] },hD [⟨PyData.keyHash P "__module__", .str "__module__" 402,.str "cpy313.wsgiref.headers" 289⟩,⟨PyData.keyHash P "__qualname__", .str "__qualname__" 404,.str "Headers" 403⟩,⟨PyData.keyHash P "__firstlineno__", .str "__firstlineno__" 406,.int (18) 405⟩,⟨PyData.keyHash P "__init__", .str "__init__" 416,.ref 76⟩,⟨PyData.keyHash P "_convert_string_type", .str "_convert_string_type" 426,.ref 83⟩,⟨PyData.keyHash P "__len__", .str "__len__" 433,.ref 90⟩,⟨PyData.keyHash P "__setitem__", .str "__setitem__" 442,.ref 97⟩,⟨PyData.keyHash P "__delitem__", .str "__delitem__" 448,.ref 102⟩,⟨PyData.keyHash P "__getitem__", .str "__getitem__" 456,.ref 109⟩,⟨PyData.keyHash P "__contains__", .str "__contains__" 464,.ref 116⟩,⟨PyData.keyHash P "get_all", .str "get_all" 470,.ref 121⟩,⟨PyData.keyHash P "get", .str "get" 481,.ref 129⟩,⟨PyData.keyHash P "keys", .str "keys" 487,.ref 134⟩,⟨PyData.keyHash P "values", .str "values" 493,.ref 139⟩,⟨PyData.keyHash P "items", .str "items" 500,.ref 146⟩,⟨PyData.keyHash P "__repr__", .str "__repr__" 507,.ref 153⟩,⟨PyData.keyHash P "__str__", .str "__str__" 513,.ref 158⟩,⟨PyData.keyHash P "__bytes__", .str "__bytes__" 520,.ref 165⟩,⟨PyData.keyHash P "setdefault", .str "setdefault" 530,.ref 172⟩,⟨PyData.keyHash P "add_header", .str "add_header" 543,.ref 179⟩,⟨PyData.keyHash P "__static_attributes__", .str "__static_attributes__" 545,.ref 180⟩] 21,hT [] 0,hF [.int (20) 0,.int (4) 0,.ref 75,.int (30) 0,.int (4) 0,.ref 82,.int (38) 0,.int (4) 0,.ref 89,.int (41) 0,.int (4) 0,.ref 96,.int (45) 0,.int (4) 0,.ref 101,.int (49) 0,.int (4) 0,.ref 108,.int (52) 0,.int (4) 0,.ref 115,.int (55) 0,.int (4) 0,.ref 120,.int (59) 0,.int (4) 0,.ref 128,.int (66) 0,.int (4) 0,.ref 133,.int (69) 0,.int (4) 0,.ref 138,.int (72) 0,.int (4) 0,.ref 145,.int (75) 0,.int (4) 0,.ref 152,.int (78) 0,.int (4) 0,.ref 157,.int (81) 0,.int (4) 0,.ref 164,.int (84) 0,.int (4) 0,.ref 171,.int (92) 0,.int (4) 0,.ref 178],hC [.str "Headers" 397,.str "Headers" 398,.str "/claim/cut.py" 399,.int (18) 0,.int (0) 0,.int (0) 0,.int (0) 0,.int (0) 0,.ref 65,.bool false,.int (276) 0,.ref 66,.none,.none,.none,.none,.int (400) 0,.int (18) 0,.str "/claim/cut.py" 401],{ cls:=.type "frame", data:=.plain,slots:=#[some (.ref 67),some (.ref 3),some (.ref 64),none,some (.str "cpy313.wsgiref.headers" 289),none,some (.ref 0)] },ob69 P,hT [] 0,hF [],hT [.str "self" 410,.str "headers" 411,.str "k" 412,.str "v" 413] 0,hT [] 0,hP "__init__" "Headers.__init__" (clsSt 7 0),ob75 P,ob76 P,hT [] 0,hF [],hT [.str "self" 420,.str "value" 421,.str "name" 422,.str "regex" 423] 0,hT [] 0,hP "_convert_string_type" "Headers._convert_string_type" (clsSt 7 1),ob82 P,ob83 P,hT [] 0,hF [],hT [.str "self" 430] 0,hT [] 0,hP "__len__" "Headers.__len__" (clsSt 7 2),ob89 P,ob90 P,hT [] 0,hF [],hT [.str "self" 437,.str "name" 438,.str "val" 439] 0,hT [] 0,hP "__setitem__" "Headers.__setitem__" (clsSt 7 3),ob96 P,ob97 P,hT [] 0,hF [],hP "__delitem__" "Headers.__delitem__" (clsSt 7 4),ob101 P,ob102 P,hT [] 0,hF [],hT [.str "self" 452,.str "name" 453] 0,hT [] 0,hP "__getitem__" "Headers.__getitem__" (clsSt 7 5),ob108 P,ob109 P,hT [] 0,hF [],hT [.str "self" 460,.str "name" 461] 0,hT [] 0,hP "__contains__" "Headers.__contains__" (clsSt 7 6),ob115 P,ob116 P,hT [] 0,hF [],hP "get_all" "Headers.get_all" (clsSt 7 7),ob120 P,ob121 P,ob122 P,hT [] 0,hF [],hT [.str "self" 474,.str "name" 475,.str "default" 476,.str "k" 477,.str "v" 478] 0,hT [] 0,hP "get" "Headers.get" (clsSt 7 8),ob128 P,ob129 P,hT [] 0,hF [],hP "keys" "Headers.keys" (clsSt 7 9),ob133 P,ob134 P,hT [] 0,hF [],hP "values" "Headers.values" (clsSt 7 10),ob138 P,ob139 P,hT [] 0,hF [],hT [.str "self" 497] 0,hT [] 0,hP "items" "Headers.items" (clsSt 7 11),ob145 P,ob146 P,hT [] 0,hF [],hT [.str "self" 504] 0,hT [] 0,hP "__repr__" "Headers.__repr__" (clsSt 7 12),ob152 P,ob153 P,hT [] 0,hF [],hP "__str__" "Headers.__str__" (clsSt 7 13),ob157 P,ob158 P,hT [] 0,hF [],hT [.str "self" 517] 0,hT [] 0,hP "__bytes__" "Headers.__bytes__" (clsSt 7 14),ob164 P,ob165 P,hT [] 0,hF [],hT [.str "self" 524,.str "name" 525,.str "value" 526,.str "result" 527] 0,hT [] 0,hP "setdefault" "Headers.setdefault" (clsSt 7 15),ob171 P,ob172 P,hT [] 0,hF [],hT [.str "self" 534,.str "_name" 535,.str "_value" 536,.str "_params" 537,.str "parts" 538,.str "k" 539,.str "v" 540] 0,hT [] 0,hP "add_header" "Headers.add_header" (clsSt 7 16),ob178 P,ob179 P,hT [.str "_headers" 544] 0,ob181 P,ob182 P,{ cls:=.type "getset_descriptor", data:=.fields #[.str "__dict__" 546,.ref 182,.builtin "function.__dict__", .builtin "function.__dict__#set"] },{ cls:=.type "getset_descriptor", data:=.fields #[.str "__weakref__" 548,.ref 182,.builtin "ExceptionGroup.__weakref__", .none] },{ cls:=.type "super", data:=.fields #[.ref 182,.ref 182,.ref 182] },{ cls:=.type "builtin_function_or_method", data:=.fields #[.builtin "object.__init_subclass__", .ref 182] },hT [] 0,hF [],hT [.str "name" 560,.str "x" 561,.str "t" 562] 0,hT [] 0,hP "_kind" "_kind" (topSt 10),ob192 P,ob193 P,hT [] 0,hF [],hT [.str "name" 569,.str "x" 570,.str "k" 571] 0,hT [] 0,hP "_fspath" "_fspath" (topSt 11),ob199 P,ob200 P,hT [] 0,hF [],hT [.str "p" 578,.str "sep" 579,.str "extsep" 580,.str "sepIndex" 581,.str "dotIndex" 582,.str "filenameIndex" 583] 0,hT [] 0,hP "splitext" "splitext" (topSt 12),ob206 P,ob207 P,hT [] 0,hF [],hT [.str "name" 590,.str "cname" 591,.str "argname" 592,.str "args" 593,.str "kwargs" 594,.str "x" 595,.str "k" 596] 0,hT [] 0,hP "_c_path" "_c_path" (topSt 13),ob213 P,ob214 P,hT [] 0,hF [],hT [.str "p" 603,.str "sep" 604,.str "empty" 605] 0,hT [] 0,hP "_splitroot" "_splitroot" (topSt 14),ob220 P,ob221 P,hT [] 0,hF [],hT [.str "p" 612,.str "i" 613] 0,hT [] 0,hP "basename" "basename" (topSt 15),ob227 P,ob228 P,hT [] 0,hF [],hT [.str "path" 620,.str "sep" 621,.str "dot" 622,.str "dotdot" 623,.str "_" 624,.str "initial_slashes" 625,.str "comps" 626,.str "new_comps" 627,.str "comp" 628] 0,hT [] 0,hP "_normpath" "_normpath" (topSt 16),ob234 P,ob235 P,hT [] 0,hF [],hT [.str "args" 635,.str "kwargs" 636] 0,hT [] 0,hP "normpath" "normpath" (topSt 17),ob241 P,ob242 P,hT [] 0,{ cls:=.type "builtin_function_or_method", data:=.fields #[.builtin "type.__prepare__", .type "type"] },hD [⟨PyData.keyHash P "__module__", .str "__module__" 649,.str "cpy313.trace" 640⟩,⟨PyData.keyHash P "__qualname__", .str "__qualname__" 651,.str "_Ignore" 650⟩,⟨PyData.keyHash P "__firstlineno__", .str "__firstlineno__" 653,.int (192) 652⟩,⟨PyData.keyHash P "__init__", .str "__init__" 659,.ref 255⟩,⟨PyData.keyHash P "names", .str "names" 670,.ref 262⟩,⟨PyData.keyHash P "__static_attributes__", .str "__static_attributes__" 674,.ref 263⟩] 6,hT [] 0,hF [.int (194) 0,.int (4) 0,.ref 254,.int (199) 0,.int (4) 0,.ref 261],hC [.str "_Ignore" 644,.str "_Ignore" 645,.str "/claim/cut.py" 646,.int (192) 0,.int (0) 0,.int (0) 0,.int (0) 0,.int (0) 0,.ref 246,.bool false,.int (276) 0,.ref 247,.none,.none,.none,.none,.int (647) 0,.int (192) 0,.str "/claim/cut.py" 648],{ cls:=.type "frame", data:=.plain,slots:=#[some (.ref 248),some (.ref 3),some (.ref 245),none,some (.str "cpy313.trace" 640),none,some (.ref 0)] },ob250 P,hT [] 0,hF [],hP "__init__" "_Ignore.__init__" (clsSt 19 0),ob254 P,ob255 P,hT [] 0,hF [],hT [.str "self" 663,.str "filename" 664,.str "modulename" 665,.str "mod" 666,.str "d" 667] 0,hT [] 0,hP "names" "_Ignore.names" (clsSt 19 1),ob261 P,ob262 P,hT [.str "_dirs" 671,.str "_ignore" 672,.str "_mods" 673] 0,ob264 P,ob265 P,{ cls:=.type "getset_descriptor", data:=.fields #[.str "__dict__" 675,.ref 265,.builtin "function.__dict__", .builtin "function.__dict__#set"] },{ cls:=.type "getset_descriptor", data:=.fields #[.str "__weakref__" 677,.ref 265,.builtin "ExceptionGroup.__weakref__", .none] },{ cls:=.type "super", data:=.fields #[.ref 265,.ref 265,.ref 265] },{ cls:=.type "builtin_function_or_method", data:=.fields #[.builtin "object.__init_subclass__", .ref 265] },hT [] 0,hF [],hT [.str "path" 685,.str "base" 686,.str "filename" 687,.str "ext" 688] 0,hT [] 0,hP "_modname" "_modname" (topSt 20),ob275 P,ob276 P,hT [] 0,hF [],hP "_law_call" "_law_call" (topSt 22),ob280 P,ob281 P,hT [] 0,hF [],hP "_law_steps" "_law_steps" (topSt 23),ob285 P,ob286 P,hT [] 0,hF [],hP "_law_chains" "_law_chains" (topSt 24),ob290 P,ob291 P,hT [] 0,hF [],hP "_law_ahead" "_law_ahead" (topSt 25),ob295 P,ob296 P,hT [] 0,hF [],hT [.str "live" 721,.str "heads" 722,.str "names" 723,.str "maker" 724,.str "place" 725,.str "spots" 726,.str "k" 727,.str "spot" 728,.str "p" 729] 0,hT [] 0,hP "_law_lay" "_law_lay" (topSt 26),ob302 P,ob303 P,hT [] 0,hF [],hP "_law_boxed" "_law_boxed" (topSt 27),ob307 P,ob308 P,hT [] 0,hF [],hP "law" "law" (topSt 28),ob312 P,ob313 P]
noncomputable def h0 (P : Params) : Heap:=⟨((hL P (hN P (.str "__main__" 164) 10 10) (hF (tb29.take 0))).take 28).toArray,{}⟩
noncomputable def hp (P : Params) : Heap:=⟨((hL P (hN P (.str "__main__" 164) 10 10) (hF (tb29.take 0))).take 32).toArray,{}⟩
noncomputable def hA (P : Params) : Heap:=⟨((hL P (hN P (.str "cpy313.wsgiref.headers" 289) 15 15) (hF (tb29.take 6))).take 62).toArray,{}⟩
noncomputable def hB (P : Params) : Heap:=⟨((hL P (hN P (.str "cpy313.wsgiref.headers" 289) 16 16) (hF (tb29.take 9))).take 187).toArray,{}⟩
noncomputable def hZ (P : Params) : Heap:=⟨((hL P (hN P (.str "law_pu0049_02" 692) 34 34) (hF (tb29.take 60))).take 314).toArray,{}⟩
noncomputable def envT : Env:={ scope:=PW.main.scope,locals:=mainNs,globals:=mainNs,cells:=[],code:=.ref 30,frame:=some 31 }
noncomputable def bT : List Stmt:=behindTheImports PW
noncomputable def cT : Code:=.body bT envT
noncomputable def qT : Pos:=⟨0,0,0,0⟩
noncomputable def annT : Option Value:=some (.ref 6)
set_option maxHeartbeats 0 in
theorem r_pre : ∀ w,(fun os=>topGo treeTable PW w 28 annT 12 ⟨h0 w.params,#[],{},276,os⟩ (topStub PW)) = fun os=>some (⟨hp w.params,#[],{},282,os⟩,⟨denote treeTable cT,cT,qT,[topFrame qT]⟩):=fun w=>by kernel_rfl
set_option maxHeartbeats 0 in
theorem r_block : ∀ w,(fun os=>segRun treeTable PW w 28 annT 1 1 ⟨hp w.params,#[],{},282,os⟩ (blockOf bT envT cT qT [topFrame qT])) = fun os=>some (.next,⟨hp w.params,#[],{},282,os⟩,cT,qT):=fun w=>by kernel_rfl
set_option maxHeartbeats 0 in
theorem r_one : ∀ w,(fun os=>segRun treeTable PW w 28 annT 1 295 ⟨hp w.params,#[],{},282,os⟩ (piecesOf (bT.take 6) envT cT qT [topFrame qT])) = fun os=>some (.next,⟨hA w.params,#[],{},395,os⟩,cT,⟨9,0,17,20⟩):=fun w=>by kernel_rfl
set_option maxHeartbeats 0 in
theorem r_two : ∀ w,(fun os=>segRun treeTable PW w 28 annT 1 728 ⟨hA w.params,#[],{},395,os⟩ (piecesOf ((bT.drop 6).take 1) envT cT ⟨9,0,17,20⟩ [topFrame qT])) = fun os=>some (.next,⟨hB w.params,#[],{},553,os⟩,cT,⟨18,0,104,93⟩):=fun w=>by kernel_rfl
set_option maxHeartbeats 0 in
theorem r_three : ∀ w,(fun os=>segRun treeTable PW w 28 annT 1 777 ⟨hB w.params,#[],{},553,os⟩ (piecesOf (bT.drop 7) envT cT ⟨18,0,104,93⟩ [topFrame qT])) = fun os=>some (.next,⟨hZ w.params,#[],{},745,os⟩,cT,⟨268,0,316,141⟩):=fun w=>by kernel_rfl
theorem r_fin : ∀ w,(fun os=>topRun treeTable PW w 28 annT 2 ⟨hZ w.params,#[],{},745,os⟩ ⟨doneF .next,cT,⟨268,0,316,141⟩,[topFrame qT]⟩) = fun os=>some ⟨hZ w.params,#[],{},745,os⟩:=fun w=>by kernel_rfl
theorem b_eq : bT = bT.take 6 ++ ((bT.drop 6).take 1 ++ (bT.drop 7 ++ [])):=by kernel_rfl
theorem r_all (w : World) (os : OsState) : topRun treeTable PW w 28 annT (12 + (1 + (295 + (728 + (777 + 2))))) ⟨h0 w.params,#[],{},276,os⟩ (topStub PW) = some ⟨hZ w.params,#[],{},745,os⟩:=by
 refine go_top (congrFun (r_pre w) os) (piece_block (congrFun (r_block w) os) ?_)
 have h : topRun treeTable PW w 28 annT (295 + (728 + (777 + 2))) ⟨hp w.params,#[],{},282,os⟩ (restOf (bT.take 6 ++ ((bT.drop 6).take 1 ++ (bT.drop 7 ++ []))) envT cT qT [topFrame qT]) = some ⟨hZ w.params,#[],{},745,os⟩ :=
  piece_app (congrFun (r_one w) os) (piece_app (congrFun (r_two w) os) (piece_app (congrFun (r_three w) os) (congrFun (r_fin w) os)))
 rw [← b_eq] at h
 exact h
set_option maxHeartbeats 0 in
theorem l_open : ∀ w : World,(fencedOpening treeTable PW w 3720).map (fun s=>(s.heap,s.gens,s.drawn,s.toks)) = some (h0 w.params,#[],{},276):=fun w=>by kernel_rfl
set_option maxHeartbeats 0 in
theorem l_size : ∀ w : World,((h0 w.params).isNs mainGlobals && (#[] : Array GenState).size == 0,(h0 w.params).objs.size,(h0 w.params).nsMap mainGlobals "__annotations__") = (true,28,annT):=fun w=>by kernel_rfl
set_option maxHeartbeats 0 in
theorem l_looks : ∀ w : World,(fun os=>((staticsOk (importedModules PW.main.body) (h0 w.params) (hZ w.params) && namesBound PW (hZ w.params) && gensDone ⟨hZ w.params,#[],{},745,os⟩ && laidKept (h0 w.params) (hZ w.params)),
  openSeen viewQ looseL (importedModules PW.main.body) topX true ⟨hZ w.params,#[],{},745,os⟩,myHook.obs ⟨hZ w.params,#[],{},745,os⟩)) = fun _=>(true,openGood viewQ looseL,myHook.val w):=fun w=>by kernel_rfl
theorem left : LeftO PW viewQ looseL topX myHook.obs myHook.val 3720 :=
 LeftO.of_pieces (H₀:=h0) (H₁:=hZ) (gs₀:=#[]) (gs₁:=#[]) (d₀:={}) (d₁:={}) (k₀:=276) (k₁:=745) (m₀:=28) (ann:=annT) (M:=12 + (1 + (295 + (728 + (777 + 2))))) l_open l_size r_all (by decide) l_looks
set_option maxHeartbeats 0 in
theorem head_of (hmain : MainSays) : PySem.Challenge.rw_pu0049_02.Holds:=by
 w_on
 refine holds_law (by decide +kernel) fun said=>?_
 refine holds_open (q:=viewQ) (loose:=looseL) (Xt:=topX) (XP:=XL viewQ []) (Yf:=myHook.obs) (Ya:=myHook.val) (YP:=myHook.says) (N:=3720) left myHook.of myHook.keeps (fun s e=>xl_of s (Bool.and_eq_true_iff.mp e).1) XL.keeps (by rfl) (by rfl) (by rfl) (fun s e=>recFacts_of (Bool.and_eq_true_iff.mp e).2) (by rfl) (by first | assumption | decide +kernel) (by decide +kernel) ⟨rfl,rfl,rfl,rfl,rfl,by decide +kernel⟩ ?hw ?hc
 case hw=>w_witness2
 intro w s₀ s₁ mg mb G Y fa o pm cd doc dV kV ho hd hcd hD hmg hg args vals as hpre hlay hrd hwl hlo
 have KX : InK KF w s₁.heap ∧ (s₁.heap.get? sysModules).isSome = true:=Y
 have T:=G.T
 have hmg : mg "law" = some (.ref fa):=hmg
 clear Y G hd hcd hD
 obtain ⟨P0,BC⟩:=chain_based T rfl KX.1
 wrow_args hpre hlay hrd hwl hlo
 rename_i script hsh hlay0 hL hr hl2 as4 as3 a vs as1 hIL ra w1 r0 hI hra hlen htr
 refine wpAny_mono (hmain w s₁ mg mb fa a P0 vs script KX T.g T.b T.nolimit T.builtins T.bmain BC hg hmg (list_well w1 hIL) hI (by lia)) (fun v s' hh=>?h3) (fun e s' hh=>hh.elim)
 obtain ⟨rfl,hold,hos,hgs⟩:=hh
 refine ⟨.inl ⟨.bool true,.bool true,[],rfl,?_,.bool true,?_,fun _=>⟨.nil,fun a h=>nomatch h⟩⟩,hold,hos,by rw [hgs]; exact AllBare.empty⟩
 ·exact raisesW_false (by wrow_none_raised)
 ·exact postW_of (by wrow_shape) (by wtm_val) (by str_meet; first | done | w_fin)
noncomputable abbrev KH:=Addr → Option Obj
noncomputable def KLe (K K' : KH) : Prop:=∀ b o,K b = some o → K' b = some o
theorem KLe.refl (K : KH) : KLe K K:=fun _ _ e=>e
theorem KLe.trans {K K' K'' : KH} (h : KLe K K') (h' : KLe K' K'') : KLe K K'':=fun b o e=>h' b o (h b o e)
structure Ty (α : Type) where
 rel : KH → Value → α → Prop
 mono : ∀ {K K' v x},KLe K K' → rel K v x → rel K' v x
structure Res where
 a : Addr
 P : KH → Obj → Prop
 mono : ∀ {K K' o},KLe K K' → P K o → P K' o
structure Gl where
 prog : Program
 w : World
 H : Heap
 TB : Addr
 os : OsState
 mc : Str → Option Value
 mb : Str → Option Value
 so : Obj
 cold : Bool
 fr : Frag
noncomputable def Gl.M (G : Gl) : Model:=model G.prog G.w
structure Own (G : Gl) (K : KH) (mu : List Res) (s : Shared) : Prop where
 k : ∀ b o,K b = some o → s.heap.get? b = some o
 old : ∀ b o,b ≠ G.TB → b ≠ cStatics → G.H.get? b = some o → K b = some o
 led : ∀ r ∈ mu,∃ o,s.heap.get? r.a = some o ∧ r.P K o
 off : ∀ r ∈ mu,K r.a = none ∧ r.a ≠ cStatics
 nodup : (mu.map (·.a)).Nodup
 gens : s.gens = #[]
 os : s.os = G.os
 tk : G.cold = false → 0 < s.toks
 st : s.heap.Ns cStatics G.mc ∧ s.heap.get? cStatics = some G.so
 kst : K cStatics = none ∧ ∃ o es ep,K builtinsNs = some o ∧ o.data = .dict es ep ∧ StrKeys es ∧ ∀ name,nsFind es name = G.mb name
noncomputable def Room (n : Nat) (A : Around) : Prop:=A.handled = none ∧ A.depth + 10 * n ≤ 900 ∧ A.units + 100 * n ≤ 9000
theorem Room.depth {n : Nat} {A : Around} (h : Room n A) : A.depth < recursionLimit:=by
 have:=h.2.1; show A.depth < 1000; lia
theorem Room.in1 {n : Nat} {A : Around} (h : Room (n + 1) A) : Room n A.in1:=⟨h.1,by have:=h.2.1; show A.depth + _ ≤ _; lia,by have:=h.2.2; show A.units + 1 + _ ≤ _; lia⟩
theorem Room.deeper {n : Nat} {A : Around} (h : Room (n + 1) A) (env : Env) : Room n (A.deeper env):=⟨h.1,by have:=h.2.1; show A.depth + 1 + _ ≤ _; lia,by have:=h.2.2; show A.units + 3 + _ ≤ _; lia⟩
noncomputable abbrev noE : Value → Shared → Prop:=fun _ _=>False
noncomputable def Tri (G : Gl) (n : Nat) (K : KH) (mu : List Res) {β : Type} (t : Sem β) (Q : KH → List Res → β → Prop) : Prop :=
 ∀ nu A s,Room n A → Own G K (mu ++ nu) s → wpAny G.M A t (fun b s'=>∃ K' mu',KLe K K' ∧ Own G K' (mu' ++ nu) s' ∧ Q K' mu' b) noE s
section
variable {G : Gl} {n : Nat} {K : KH} {mu : List Res} {β γ : Type}
theorem Own.toks {s : Shared} (h : Own G K mu s) (t : Nat) (ht : s.toks ≤ t:=by lia) : Own G K mu { s with toks:=t }:=⟨h.k,h.old,h.led,h.off,h.nodup,h.gens,h.os,fun c=>Nat.lt_of_lt_of_le (h.tk c) ht,h.st,h.kst⟩
theorem Own.perm {s : Shared} {mu' : List Res} (h : Own G K mu s) (p : mu.Perm mu') : Own G K mu' s :=
 ⟨h.k,h.old,fun r hr=>h.led r (p.mem_iff.mpr hr),fun r hr=>h.off r (p.mem_iff.mpr hr),(p.map _).nodup h.nodup,h.gens,h.os,h.tk,h.st,h.kst⟩
theorem Own.sub {s : Shared} {mu' : List Res} (h : Own G K mu s) (p : mu'.Sublist mu) : Own G K mu' s :=
 ⟨h.k,h.old,fun r hr=>h.led r (p.subset hr),fun r hr=>h.off r (p.subset hr),h.nodup.sublist (p.map _),h.gens,h.os,h.tk,h.st,h.kst⟩
theorem Own.tell {s : Shared} {mu' : List Res} (h : Own G K mu s) (ha : mu'.map (·.a) = mu.map (·.a)) (hp : ∀ r' ∈ mu',∃ r ∈ mu,r.a = r'.a ∧ ∀ K o,r.P K o → r'.P K o) : Own G K mu' s :=
 ⟨h.k,h.old,fun r' hr'=>let ⟨r,hr,e,p⟩:=hp r' hr'; let ⟨o,e',q⟩:=h.led r hr; ⟨o,by rw [← e]; exact e',p K o q⟩,fun r' hr'=>let ⟨r,hr,e,_⟩:=hp r' hr'; by rw [← e]; exact h.off r hr,by rw [ha]; exact h.nodup,h.gens,h.os,h.tk,h.st,h.kst⟩
theorem Own.get {s : Shared} {r : Res} (h : Own G K mu s) (hr : r ∈ mu) : ∃ o,s.heap.get? r.a = some o ∧ r.P K o:=h.led r hr
theorem Own.lt {s : Shared} {r : Res} (h : Own G K mu s) (hr : r ∈ mu) : r.a < s.heap.objs.size:=let ⟨_,e,_⟩:=h.led r hr; Heap.lt_size e
theorem Own.klt {s : Shared} {b : Addr} {o : Obj} (h : Own G K mu s) (hb : K b = some o) : b < s.heap.objs.size:=Heap.lt_size (h.k b o hb)
theorem Own.slt {s : Shared} (h : Own G K mu s) : cStatics < s.heap.objs.size:=h.st.1.lt
noncomputable def kput (K : KH) (a : Addr) (o : Obj) : KH:=fun b=>if b = a then some o else K b
theorem kput_self (K : KH) (a : Addr) (o : Obj) : kput K a o a = some o:=if_pos rfl
theorem kput_le {K : KH} {a : Addr} {o : Obj} (h : K a = none) : KLe K (kput K a o):=fun b o' e=>by
 unfold kput
 rw [if_neg (by rintro rfl; rw [h] at e; cases e)]
 exact e
theorem Own.fresh {s : Shared} (h : Own G K mu s) : K s.heap.objs.size = none:=by
 cases e : K s.heap.objs.size with
 | none=>rfl
 | some o=>exact absurd (h.klt e) (Nat.lt_irrefl _)
theorem Own.growS {s s' : Shared} (h : Own G K mu s) (hk : ∀ b o,b ≠ cStatics → s.heap.get? b = some o → s'.heap.get? b = some o) (hst : s'.heap.Ns cStatics G.mc ∧ s'.heap.get? cStatics = some G.so) (hg : s'.gens = s.gens) (ho : s'.os = s.os) (ht : s.toks ≤ s'.toks:=by exact Nat.le_refl _) : Own G K mu s' :=
 ⟨fun b o e=>hk b o (by rintro rfl; rw [h.kst.1] at e; cases e) (h.k b o e),h.old,fun r hr=>let ⟨o,e,p⟩:=h.led r hr; ⟨o,hk _ _ (h.off r hr).2 e,p⟩,h.off,h.nodup,hg.trans h.gens,ho.trans h.os,fun c=>Nat.lt_of_lt_of_le (h.tk c) ht,hst,h.kst⟩
theorem Own.grow {s s' : Shared} (h : Own G K mu s) (hk : ∀ b o,s.heap.get? b = some o → s'.heap.get? b = some o) (hg : s'.gens = s.gens) (ho : s'.os = s.os) (ht : s.toks ≤ s'.toks:=by exact Nat.le_refl _) : Own G K mu s' :=
 h.growS (fun b o _ e=>hk b o e) ⟨h.st.1.keeps hk,hk _ _ h.st.2⟩ hg ho ht
theorem Own.kgrow {s : Shared} {K' : KH} (h : Own G K mu s) (hle : KLe K K') (hk : ∀ b o,K' b = some o → s.heap.get? b = some o) (hoff : ∀ r ∈ mu,K' r.a = none) (hkst : K' cStatics = none) : Own G K' mu s :=
 ⟨hk,fun b o hb hb' e=>hle b o (h.old b o hb hb' e),fun r hr=>let ⟨o,e,p⟩:=h.led r hr; ⟨o,e,r.mono hle p⟩,fun r hr=>⟨hoff r hr,(h.off r hr).2⟩,h.nodup,h.gens,h.os,h.tk,h.st,hkst,let ⟨o,es,ep,e,q⟩:=h.kst.2; ⟨o,es,ep,hle _ _ e,q⟩⟩
theorem Own.push {s : Shared} (h : Own G K mu s) (o : Obj) (hf : o.isFreed = false:=by rfl) : Own G (kput K s.heap.objs.size o) mu { s with heap:=s.heap.push o }:=by
 refine Own.kgrow (h.grow (s':={ s with heap:=s.heap.push o }) (fun b o' e=>Heap.get?_push_of_some _ e) rfl rfl) (kput_le h.fresh) (fun b o' e=>?_) (fun r hr=>?_) ?_
 ·unfold kput at e
  split at e
  ·rename_i hb; subst hb; cases e; exact Heap.get?_push_size _ hf
  ·exact Heap.get?_push_of_some _ (h.k b o' e)
 ·unfold kput
  rw [if_neg (Nat.ne_of_lt (h.lt hr))]
  exact (h.off r hr).1
 ·unfold kput
  rw [if_neg (Nat.ne_of_lt h.slt)]
  exact h.kst.1
theorem Own.addOwned {s : Shared} (h : Own G K mu s) (r : Res) {o : Obj} (hg : s.heap.get? r.a = some o) (hP : r.P K o) (hk : K r.a = none) (hc : r.a ≠ cStatics) (hn : ∀ q ∈ mu,q.a ≠ r.a) : Own G K (r :: mu) s:=by
 refine ⟨h.k,h.old,fun q hq=>?_,fun q hq=>?_,?_,h.gens,h.os,h.tk,h.st,h.kst⟩
 ·rcases List.mem_cons.mp hq with rfl | hq
  ·exact ⟨o,hg,hP⟩
  ·exact h.led q hq
 ·rcases List.mem_cons.mp hq with rfl | hq
  ·exact ⟨hk,hc⟩
  ·exact h.off q hq
 ·rw [List.map_cons,List.nodup_cons]
  refine ⟨fun hm=>?_,h.nodup⟩
  obtain ⟨q,hq,e⟩:=List.mem_map.mp hm
  exact hn q hq e
theorem Own.pushOwned {s : Shared} (h : Own G K mu s) (o : Obj) (r : Res) (ha : r.a = s.heap.objs.size) (hP : r.P K o) (hf : o.isFreed = false:=by rfl) : Own G K (r :: mu) { s with heap:=s.heap.push o }:=by
 have h':=h.grow (s':={ s with heap:=s.heap.push o }) (fun b o' e=>Heap.get?_push_of_some _ e) rfl rfl
 refine h'.addOwned r (o:=o) (by rw [ha]; exact Heap.get?_push_size _ hf) hP (by rw [ha]; exact h.fresh) (by rw [ha]; exact Nat.ne_of_gt h.slt) fun q hq e=>?_
 exact Nat.lt_irrefl _ (ha ▸ e ▸ h.lt hq)
theorem Own.freeze {s : Shared} {r : Res} (h : Own G K (r :: mu) s) : ∃ o,r.P K o ∧ K r.a = none ∧ Own G (kput K r.a o) mu s:=by
 obtain ⟨o,e,p⟩:=h.led r List.mem_cons_self
 have hk:=h.off r List.mem_cons_self
 have hm:=h.sub (List.sublist_cons_self r mu)
 have hnd:=h.nodup
 rw [List.map_cons,List.nodup_cons] at hnd
 refine ⟨o,p,hk.1,hm.kgrow (kput_le hk.1) (fun b o' e'=>?_) (fun q hq=>?_) ?_⟩
 ·unfold kput at e'
  split at e'
  ·rename_i hb; subst hb; cases e'; exact e
  ·exact h.k b o' e'
 ·unfold kput
  rw [if_neg (fun e=>hnd.1 (List.mem_map.mpr ⟨q,hq,e⟩))]
  exact (hm.off q hq).1
 ·unfold kput
  rw [if_neg (fun e=>hk.2 e.symm)]
  exact h.kst.1
theorem Own.change {s : Shared} {r r' : Res} {h' : Heap} {o' : Obj} {t : Nat} (h : Own G K (r :: mu) s) (ha : r'.a = r.a) (hs : Heap.SameBut r.a s.heap h') (he : h'.get? r.a = some o') (hP : r'.P K o') (ht : s.toks ≤ t:=by lia) :
  Own G K (r' :: mu) { s with heap:=h',toks:=t }:=by
 have hk:=h.off r List.mem_cons_self
 have hnd:=h.nodup
 rw [List.map_cons,List.nodup_cons] at hnd
 have ne : ∀ q ∈ mu,q.a ≠ r.a:=fun q hq e=>hnd.1 (List.mem_map.mpr ⟨q,hq,e⟩)
 refine ⟨fun b o e=>(hs.2 b (by rintro rfl; rw [hk.1] at e; cases e)).trans (h.k b o e),h.old,fun q hq=>?_,fun q hq=>?_,?_,h.gens,h.os,fun c=>Nat.lt_of_lt_of_le (h.tk c) ht,⟨h.st.1.sameBut hs (Ne.symm hk.2),(hs.2 _ (Ne.symm hk.2)).trans h.st.2⟩,h.kst⟩
 ·rcases List.mem_cons.mp hq with rfl | hq
  ·exact ⟨o',by rw [ha]; exact he,hP⟩
  ·obtain ⟨o,e,p⟩:=h.led q (List.mem_cons_of_mem _ hq)
   exact ⟨o,(hs.2 _ (ne q hq)).trans e,p⟩
 ·rcases List.mem_cons.mp hq with rfl | hq
  ·rw [ha]; exact hk
  ·exact h.off q (List.mem_cons_of_mem _ hq)
 ·rw [List.map_cons,List.nodup_cons,ha]
  exact hnd
theorem Own.drop {s s' : Shared} {r : Res} (h : Own G K (r :: mu) s) (hx : Heap.ExtBut r.a s.heap s'.heap) (hg : s'.gens = s.gens) (ho : s'.os = s.os) (ht : s.toks ≤ s'.toks:=by exact Nat.le_refl _) : Own G K mu s':=by
 have hk:=h.off r List.mem_cons_self
 have hnd:=h.nodup
 rw [List.map_cons,List.nodup_cons] at hnd
 refine ⟨fun b o e=>hx b o (by rintro rfl; rw [hk.1] at e; cases e) (h.k b o e),h.old,fun q hq=>?_,fun q hq=>h.off q (List.mem_cons_of_mem _ hq),hnd.2,hg.trans h.gens,ho.trans h.os,fun c=>Nat.lt_of_lt_of_le (h.tk c) ht,⟨h.st.1.extBut hx (Ne.symm hk.2),hx _ _ (Ne.symm hk.2) h.st.2⟩,h.kst⟩
 obtain ⟨o,e,p⟩:=h.led q (List.mem_cons_of_mem _ hq)
 exact ⟨o,hx _ o (fun e=>hnd.1 (List.mem_map.mpr ⟨q,hq,e⟩)) e,p⟩
theorem Own.pushK {s s' : Shared} {a : Addr} {o : Obj} (h : Own G K mu s) (hkeep : ∀ b o,s.heap.get? b = some o → s'.heap.get? b = some o) (ha : s'.heap.get? a = some o) (hac : a ≠ cStatics) (hn : s.heap.get? a = none) (hg : s'.gens = s.gens) (ho : s'.os = s.os) (ht : s.toks ≤ s'.toks:=by exact Nat.le_refl _) : K a = none ∧ Own G (kput K a o) mu s':=by
 have h1:=h.grow hkeep hg ho ht
 have hk : K a = none:=by
  cases e : K a with
  | none=>rfl
  | some o'=>have:=h.k a o' e; rw [hn] at this; cases this
 refine ⟨hk,h1.kgrow (kput_le hk) (fun b o' e'=>?_) (fun q hq=>?_) ?_⟩
 ·unfold kput at e'
  split at e'
  ·rename_i hb; subst hb; cases e'; exact ha
  ·exact h1.k b o' e'
 ·unfold kput
  rw [if_neg (fun e=>by obtain ⟨o',e',_⟩:=h.led q hq; rw [e,hn] at e'; cases e')]
  exact (h1.off q hq).1
 ·unfold kput
  rw [if_neg (fun e=>hac e.symm)]
  exact h1.kst.1
theorem Tri.pure {b : β} {Q : KH → List Res → β → Prop} (h : Q K mu b) : Tri G n K mu (Pure.pure b) Q:=fun _ _ _ _ hs=>wpAny_pure ⟨K,mu,.refl K,hs,h⟩
theorem Tri.mono {t : Sem β} {Q R : KH → List Res → β → Prop} (h : Tri G n K mu t Q) (hq : ∀ K' mu' b,KLe K K' → Q K' mu' b → R K' mu' b) : Tri G n K mu t R:=fun nu A s hA hs =>
 wpAny_mono (h nu A s hA hs) (fun b _ x=>let ⟨K',mu',hle,ho,hr⟩:=x; ⟨K',mu',hle,ho,hq K' mu' b hle hr⟩) fun _ _ x=>x
theorem Tri.permPost {t : Sem β} {Q : KH → List Res → β → Prop} {R : KH → List Res → β → Prop} (h : Tri G n K mu t Q) (hq : ∀ K' mu' b,KLe K K' → Q K' mu' b → ∃ mu'',mu'.Perm mu'' ∧ R K' mu'' b) : Tri G n K mu t R:=fun nu A s hA hs =>
 wpAny_mono (h nu A s hA hs) (fun b _ x=>let ⟨K',mu',hle,ho,hr⟩:=x; let ⟨mu'',p,hr'⟩:=hq K' mu' b hle hr; ⟨K',mu'',hle,ho.perm (p.append_right nu),hr'⟩) fun _ _ x=>x
end
noncomputable def tInt : Ty Int:=⟨fun _ v x=>∃ t,v = .int x t,fun _ h=>h⟩
noncomputable def tStr : Ty Str:=⟨fun _ v x=>∃ t,v = .str x t,fun _ h=>h⟩
noncomputable def tBool : Ty Bool:=⟨fun _ v x=>v = .bool x,fun _ h=>h⟩
noncomputable def tNone : Ty Unit:=⟨fun _ v _=>v = .none,fun _ h=>h⟩
noncomputable def tVal : Ty Value:=⟨fun _ v x=>v = x,fun _ h=>h⟩
noncomputable def tOpt {α : Type} (T : Ty α) : Ty (Option α):=⟨fun K v x=>match x with | none=>v = .none | some y=>T.rel K v y,fun {K K' v x} hle h=>by
 cases x with
 | none=>exact h
 | some y=>exact T.mono hle h⟩
universe u v w
noncomputable def All2 {α : Type u} {β : Type v} (R : β → α → Prop) : List β → List α → Prop
 | [],[]=>True
 | v :: vs,x :: xs=>R v x ∧ All2 R vs xs
 | [],_ :: _=>False
 | _ :: _,[]=>False
section
variable {α : Type u} {β : Type v} {γ : Type w} {R : β → α → Prop}
theorem All2.mono {R' : β → α → Prop} (h : ∀ v x,R v x → R' v x) : ∀ {vs : List β} {xs : List α},All2 R vs xs → All2 R' vs xs
 | [],[],_=>trivial
 | _ :: _,_ :: _,⟨a,b⟩=>⟨h _ _ a,All2.mono h b⟩
theorem All2.length : ∀ {vs : List β} {xs : List α},All2 R vs xs → vs.length = xs.length
 | [],[],_=>rfl
 | _ :: _,_ :: _,⟨_,b⟩=>congrArg (· + 1) (All2.length b)
theorem All2.get : ∀ {vs : List β} {xs : List α},All2 R vs xs → ∀ {i : Nat} {x : α},xs[i]? = some x → ∃ v,vs[i]? = some v ∧ R v x
 | _ :: _,_ :: _,⟨a,_⟩,0,x,e=>by simp only [List.getElem?_cons_zero,Option.some.injEq] at e; subst e; exact ⟨_,rfl,a⟩
 | _ :: _,_ :: _,⟨_,b⟩,i + 1,x,e=>by rw [List.getElem?_cons_succ] at e; simpa using All2.get b e
 | [],[],_,_,_,e=>by simp at e
theorem All2.getV : ∀ {vs : List β} {xs : List α},All2 R vs xs → ∀ {i : Nat} {v : β},vs[i]? = some v → ∃ x,xs[i]? = some x ∧ R v x
 | _ :: _,_ :: _,⟨a,_⟩,0,x,e=>by simp only [List.getElem?_cons_zero,Option.some.injEq] at e; subst e; exact ⟨_,rfl,a⟩
 | _ :: _,_ :: _,⟨_,b⟩,i + 1,x,e=>by rw [List.getElem?_cons_succ] at e; simpa using All2.getV b e
 | [],[],_,_,_,e=>by simp at e
theorem All2.append : ∀ {vs : List β} {xs : List α} {vs' : List β} {xs' : List α},All2 R vs xs → All2 R vs' xs' → All2 R (vs ++ vs') (xs ++ xs')
 | [],[],_,_,_,h=>h
 | _ :: _,_ :: _,_,_,⟨a,b⟩,h=>⟨a,All2.append b h⟩
theorem All2.take : ∀ {vs : List β} {xs : List α} (k : Nat),All2 R vs xs → All2 R (vs.take k) (xs.take k)
 | [],[],k,_=>by simp [All2]
 | _ :: _,_ :: _,0,_=>by simp [All2]
 | _ :: _,_ :: _,k + 1,⟨a,b⟩=>by rw [List.take_succ_cons,List.take_succ_cons]; exact ⟨a,All2.take k b⟩
theorem All2.drop : ∀ {vs : List β} {xs : List α} (k : Nat),All2 R vs xs → All2 R (vs.drop k) (xs.drop k)
 | [],[],k,_=>by simp [All2]
 | _ :: _,_ :: _,0,h=>h
 | _ :: _,_ :: _,k + 1,⟨_,b⟩=>by rw [List.drop_succ_cons,List.drop_succ_cons]; exact All2.drop k b
theorem All2.nil_right {vs : List β} (h : All2 R vs []) : vs = []:=by cases vs with | nil=>rfl | cons _ _=>exact h.elim
theorem All2.cons_right {vs : List β} {x : α} {xs : List α} (h : All2 R vs (x :: xs)) : ∃ v vs',vs = v :: vs' ∧ R v x ∧ All2 R vs' xs:=by
 cases vs with | nil=>exact h.elim | cons v vs'=>exact ⟨v,vs',rfl,h.1,h.2⟩
theorem All2.snoc {vs : List β} {xs : List α} {v : β} {x : α} (h : All2 R vs xs) (hx : R v x) : All2 R (vs ++ [v]) (xs ++ [x]):=h.append ⟨hx,trivial⟩
end
noncomputable def listO (vs : List Value) (n : Nat) : Obj:={ cls:=.type "list", data:=.seq vs.toArray n }
noncomputable def tupO (vs : List Value) (n : Nat) : Obj:={ cls:=.type "tuple", data:=.seq vs.toArray n }
noncomputable def tList {α : Type} (T : Ty α) : Ty (List α):=⟨fun K v xs=>∃ a vs n,v = .ref a ∧ K a = some (listO vs n) ∧ All2 (T.rel K) vs xs,fun hle h=>by
 obtain ⟨a,vs,n,rfl,hk,hr⟩:=h
 exact ⟨a,vs,n,rfl,hle _ _ hk,hr.mono fun _ _=>T.mono hle⟩⟩
noncomputable def tPair {α β : Type} (T : Ty α) (U : Ty β) : Ty (α × β):=⟨fun K v p=>∃ a v1 v2 n,v = .ref a ∧ K a = some (tupO [v1,v2] n) ∧ T.rel K v1 p.1 ∧ U.rel K v2 p.2,fun hle h=>by
 obtain ⟨a,v1,v2,n,rfl,hk,h1,h2⟩:=h
 exact ⟨a,v1,v2,n,rfl,hle _ _ hk,T.mono hle h1,U.mono hle h2⟩⟩
noncomputable def tTrip {α β γ : Type} (T : Ty α) (U : Ty β) (V : Ty γ) : Ty (α × β × γ):=⟨fun K v p=>∃ a v1 v2 v3 n,v = .ref a ∧ K a = some (tupO [v1,v2,v3] n) ∧ T.rel K v1 p.1 ∧ U.rel K v2 p.2.1 ∧ V.rel K v3 p.2.2,fun hle h=>by
 obtain ⟨a,v1,v2,v3,n,rfl,hk,h1,h2,h3⟩:=h
 exact ⟨a,v1,v2,v3,n,rfl,hle _ _ hk,T.mono hle h1,U.mono hle h2,V.mono hle h3⟩⟩
structure TV where
 {α : Type}
 T : Ty α
 x : α
noncomputable def NsO (o : Obj) (m : Str → Option Value) : Prop:=∃ es ep,o.data = .dict es ep ∧ StrKeys es ∧ ∀ x,nsFind es x = m x
noncomputable def FrOk (ln : List Str) (rho : List (Option TV)) (K : KH) (m : Str → Option Value) : Prop:=∀ (i : Nat) (nm : Str) (tv : TV),ln[i]? = some nm → rho[i]? = some (some tv) → ∃ v,m nm = some v ∧ tv.T.rel K v tv.x
theorem FrOk.mono {ln : List Str} {rho : List (Option TV)} {K K' : KH} {m : Str → Option Value} (hle : KLe K K') (h : FrOk ln rho K m) : FrOk ln rho K' m:=fun i nm tv a b=>let ⟨v,c,d⟩:=h i nm tv a b; ⟨v,c,tv.T.mono hle d⟩
noncomputable def rFrame (L : Addr) (ln : List Str) (rho : List (Option TV)) : Res:=⟨L,fun K o=>∃ m,NsO o m ∧ FrOk ln rho K m,fun hle h=>let ⟨m,a,b⟩:=h; ⟨m,a,b.mono hle⟩⟩
noncomputable def rCell {α : Type} (c : Addr) (T : Ty α) (x : α) : Res:=⟨c,fun K o=>∃ v,o.data = .cell (some v) ∧ T.rel K v x,fun hle h=>let ⟨v,a,b⟩:=h; ⟨v,a,T.mono hle b⟩⟩
noncomputable def rCell0 (c : Addr) : Res:=⟨c,fun _ o=>∃ v,o.data = .cell v,fun _ h=>h⟩
noncomputable def rList {α : Type} (a : Addr) (T : Ty α) (xs : List α) : Res:=⟨a,fun K o=>∃ vs n,o = listO vs n ∧ All2 (T.rel K) vs xs,fun hle h=>let ⟨vs,n,a,b⟩:=h; ⟨vs,n,a,b.mono fun _ _=>T.mono hle⟩⟩
noncomputable def rObj (a : Addr) (o : Obj) : Res:=⟨a,fun _ o'=>o' = o,fun _ h=>h⟩
noncomputable def Ev (G : Gl) (n : Nat) (env : Env) (mu : List Res) (e : Expr) {α : Type} (T : Ty α) (x : α) (mu' : List Res) : Prop :=
 ∀ K,Tri G n K mu (eval e env) fun K' mu'' v=>mu'' = mu' ∧ T.rel K' v x
noncomputable def Cond (G : Gl) (n : Nat) (env : Env) (mu : List Res) (e : Expr) (b : Bool) (mu' : List Res) : Prop :=
 ∀ K,Tri G n K mu (isTrue e env (eval e env)) fun _ mu'' b'=>mu'' = mu' ∧ b' = b
noncomputable def Ex (G : Gl) (n : Nat) (env : Env) (mu : List Res) (ss : List Stmt) (F : Flow → KH → List Res → Prop) : Prop :=
 ∀ K,Tri G n K mu (execs ss env) fun K' mu' f=>F f K' mu'
noncomputable def ExS (G : Gl) (n : Nat) (env : Env) (mu : List Res) (st : Stmt) (F : Flow → KH → List Res → Prop) : Prop :=
 ∀ K,Tri G n K mu (exec st env) fun K' mu' f=>F f K' mu'
noncomputable def Vl (G : Gl) (n : Nat) (K : KH) (mu : List Res) (t : Sem Value) {α : Type} (T : Ty α) (x : α) (mu' : List Res) : Prop :=
 Tri G n K mu t fun K' mu'' v=>mu'' = mu' ∧ T.rel K' v x
noncomputable def fNext (mu : List Res) : Flow → KH → List Res → Prop:=fun f _ mu'=>f = .next ∧ mu' = mu
noncomputable def fRet {α : Type} (T : Ty α) (x : α) (mu : List Res) : Flow → KH → List Res → Prop:=fun f K mu'=>∃ v,f = .ret v ∧ mu' = mu ∧ T.rel K v x
section
variable {G : Gl} {n : Nat} {env : Env} {mu mu' mu'' nu : List Res} {K : KH} {A : Around} {s : Shared} {E : Value → Shared → Prop} {α β γ : Type} {T : Ty α} {x : α} {U : Ty β} {y : β} {V : Ty γ} {z : γ} {e : Expr}
theorem Tri.use {δ : Type} {t : Sem δ} {R : KH → List Res → δ → Prop} {Q : δ → Shared → Prop} (h : Tri G n K mu t R) (hA : Room n A) (hs : Own G K (mu ++ nu) s) (hq : ∀ K' mu' v s',KLe K K' → Own G K' (mu' ++ nu) s' → R K' mu' v → Q v s') : wpAny G.M A t Q E s :=
 wpAny_mono (h nu A s hA hs) (fun v s' ⟨K',mu',hle,ho,hr⟩=>hq K' mu' v s' hle ho hr) fun _ _ x=>x.elim
theorem Vl.use {t : Sem Value} {Q : Value → Shared → Prop} (h : Vl G n K mu t T x mu') (hA : Room n A) (hs : Own G K (mu ++ nu) s) (hq : ∀ K' v s',KLe K K' → Own G K' (mu' ++ nu) s' → T.rel K' v x → Q v s') : wpAny G.M A t Q E s :=
 Tri.use h hA hs fun K' mu'' v s' hle ho hr=>by obtain ⟨rfl,hr⟩:=hr; exact hq K' v s' hle ho hr
theorem Ev.use {Q : Value → Shared → Prop} (h : Ev G n env mu e T x mu') (hA : Room n A) (hs : Own G K (mu ++ nu) s) (hq : ∀ K' v s',KLe K K' → Own G K' (mu' ++ nu) s' → T.rel K' v x → Q v s') : wpAny G.M A (eval e env) Q E s :=
 Vl.use (h K) hA hs hq
theorem Cond.use {b : Bool} {Q : Bool → Shared → Prop} (h : Cond G n env mu e b mu') (hA : Room n A) (hs : Own G K (mu ++ nu) s) (hq : ∀ K' s',KLe K K' → Own G K' (mu' ++ nu) s' → Q b s') : wpAny G.M A (isTrue e env (eval e env)) Q E s :=
 Tri.use (h K) hA hs fun K' mu'' v s' hle ho hr=>by obtain ⟨rfl,rfl⟩:=hr; exact hq K' s' hle ho
theorem Ex.use {ss : List Stmt} {F : Flow → KH → List Res → Prop} {Q : Flow → Shared → Prop} (h : Ex G n env mu ss F) (hA : Room n A) (hs : Own G K (mu ++ nu) s) (hq : ∀ K' mu' f s',KLe K K' → Own G K' (mu' ++ nu) s' → F f K' mu' → Q f s') : wpAny G.M A (execs ss env) Q E s :=
 Tri.use (h K) hA hs hq
theorem ExS.use {st : Stmt} {F : Flow → KH → List Res → Prop} {Q : Flow → Shared → Prop} (h : ExS G n env mu st F) (hA : Room n A) (hs : Own G K (mu ++ nu) s) (hq : ∀ K' mu' f s',KLe K K' → Own G K' (mu' ++ nu) s' → F f K' mu' → Q f s') : wpAny G.M A (exec st env) Q E s :=
 Tri.use (h K) hA hs hq
theorem done {mu₁ : List Res} {v : Value} {K₀ : KH} (hle : KLe K₀ K) (ho : Own G K (mu₁ ++ nu) s) (hr : T.rel K v x) : ∃ K' mu',KLe K₀ K' ∧ Own G K' (mu' ++ nu) s ∧ mu' = mu₁ ∧ T.rel K' v x:=⟨K,mu₁,hle,ho,rfl,hr⟩
theorem Ev.conv {x' : α} (h : Ev G n env mu e T x' mu') (hx : x' = x) : Ev G n env mu e T x mu':=hx ▸ h
theorem Ev.intC {i : Int} {k : Nat} {pos : Pos} : Ev G n env mu (.Constant (.int i) k pos) tInt i mu:=fun K nu A s _ hs=>wpAny_Constant_int (done (.refl K) (hs.toks _) ⟨_,rfl⟩)
theorem Ev.strC {i : Str} {k : Nat} {pos : Pos} : Ev G n env mu (.Constant (.str i) k pos) tStr i mu:=fun K nu A s _ hs=>wpAny_Constant_str (done (.refl K) (hs.toks _) ⟨_,rfl⟩)
theorem Ev.boolC {b : Bool} {k : Nat} {pos : Pos} : Ev G n env mu (.Constant (.bool b) k pos) tBool b mu:=fun K nu A s _ hs=>wpAny_Constant_bool (done (.refl K) hs rfl)
theorem Ev.noneC {k : Nat} {pos : Pos} : Ev G n env mu (.Constant .none k pos) tNone () mu:=fun K nu A s _ hs=>wpAny_Constant_none (done (.refl K) hs rfl)
theorem ns_of {h : Heap} {a : Addr} {o : Obj} {m : Str → Option Value} (e : h.get? a = some o) (hn : NsO o m) : h.Ns a m:=let ⟨es,ep,d,k,f⟩:=hn; ⟨o,es,ep,e,d,k,f⟩
theorem of_ns {h : Heap} {a : Addr} {m : Str → Option Value} (hn : h.Ns a m) : ∃ o,h.get? a = some o ∧ NsO o m:=let ⟨o,es,ep,e,d,k,f⟩:=hn; ⟨o,e,es,ep,d,k,f⟩
theorem set_split {i : Nat} {r r' : Res} (h : mu[i]? = some r) : mu.Perm (r :: mu.eraseIdx i) ∧ (mu.set i r').Perm (r' :: mu.eraseIdx i):=by
 induction mu generalizing i with
 | nil=>simp at h
 | cons q l ih =>
  cases i with
  | zero=>simp only [List.getElem?_cons_zero,Option.some.injEq] at h; subst h; exact ⟨.refl _,.refl _⟩
  | succ i =>
   rw [List.getElem?_cons_succ] at h
   obtain ⟨a,b⟩:=ih h
   exact ⟨(a.cons q).trans (List.Perm.swap ..),(b.cons q).trans (List.Perm.swap ..)⟩
theorem Own.changeAt {i : Nat} {r r' : Res} {h' : Heap} {o' : Obj} {t : Nat} (h : Own G K (mu ++ nu) s) (hi : mu[i]? = some r) (ha : r'.a = r.a) (hs : Heap.SameBut r.a s.heap h') (he : h'.get? r.a = some o') (hP : r'.P K o') (ht : s.toks ≤ t:=by lia) :
  Own G K (mu.set i r' ++ nu) { s with heap:=h',toks:=t }:=by
 obtain ⟨p,q⟩:=set_split (r':=r') hi
 have h1:=h.perm (p.append_right nu)
 have h2:=Own.change (t:=t) h1 ha hs he hP ht
 exact h2.perm (q.append_right nu).symm
end
noncomputable abbrev tLI : Ty (List Int) := tList tInt
noncomputable abbrev tLS : Ty (List Str) := tList tStr
noncomputable abbrev tLP : Ty (List (Int × Int)) := tList (tPair tInt tInt)
noncomputable abbrev tLL : Ty (List (List Int)) := tList tLI
noncomputable def Det {α : Type} (T : Ty α) : Prop:=∀ {K v x y},T.rel K v x → T.rel K v y → x = y
noncomputable def EqTy {α : Type} [DecidableEq α] (T : Ty α) (d : Nat) : Prop :=
 ∀ (K : KH) (s : Shared) (A : Around) (v w : Value) (x y : α),(∀ b o,K b = some o → s.heap.get? b = some o) → A.units + d < cLine → T.rel K v x → T.rel K w y → SeqAt.EqAt A s v w (decide (x = y))
theorem det_int : Det tInt:=fun ⟨_,e⟩ ⟨_,e'⟩=>by rw [e] at e'; cases e'; rfl
theorem det_str : Det tStr:=fun ⟨_,e⟩ ⟨_,e'⟩=>by rw [e] at e'; cases e'; rfl
theorem det_all2 {α : Type} {T : Ty α} (h : Det T) {K : KH} : ∀ {vs : List Value} {xs ys : List α},All2 (T.rel K) vs xs → All2 (T.rel K) vs ys → xs = ys
 | [],[],[],_,_=>rfl
 | v :: vs,x :: xs,y :: ys,⟨a,b⟩,⟨c,d⟩=>by rw [h a c,det_all2 h b d]
theorem listO_inj {vs ws : List Value} {n m : Nat} (h : listO vs n = listO ws m) : vs = ws:=by
 have:=congrArg (fun o=>match o.data with | .seq xs _=>xs.toList | _=>[]) h
 simpa [listO] using this
theorem tupO_inj {vs ws : List Value} {n m : Nat} (h : tupO vs n = tupO ws m) : vs = ws:=by
 have:=congrArg (fun o=>match o.data with | .seq xs _=>xs.toList | _=>[]) h
 simpa [tupO] using this
theorem det_list {α : Type} {T : Ty α} (h : Det T) : Det (tList T):=fun ⟨a,vs,n,e,hk,hr⟩ ⟨a',vs',n',e',hk',hr'⟩=>by
 rw [e] at e'; cases e'
 rw [hk] at hk'
 have:=listO_inj (Option.some.inj hk')
 subst this
 exact det_all2 h hr hr'
theorem det_pair {α β : Type} {T : Ty α} {U : Ty β} (h : Det T) (h' : Det U) : Det (tPair T U):=fun {K v x y} ⟨a,v1,v2,n,e,hk,h1,h2⟩ ⟨a',v1',v2',n',e',hk',h1',h2'⟩=>by
 rw [e] at e'; cases e'
 rw [hk] at hk'
 have:=tupO_inj (Option.some.inj hk')
 simp only [List.cons.injEq,and_true] at this
 obtain ⟨rfl,rfl⟩:=this
 exact Prod.ext (h h1 h1') (h' h2 h2')
theorem eqTy_int {d : Nat} : EqTy tInt d:=fun K s A v w x y _ _ ⟨t,e⟩ ⟨u,e'⟩=>by
 subst e e'
 have:=(MeetsSeq.EqGives.int x y t u).at A s
 have h : (x == y) = decide (x = y):=rfl
 rw [h] at this; exact this
theorem str_beq (x y : Str) : (x.cps.toList == y.cps.toList) = decide (x = y):=by
 by_cases h : x = y
 ·subst h; simp
 ·have : ¬ x.cps.toList = y.cps.toList:=fun e=>h (by cases x; cases y; congr 1; exact Array.ext' e)
  rw [decide_eq_false h]
  exact beq_eq_false_iff_ne.mpr this
theorem eqTy_str {d : Nat} : EqTy tStr d:=fun K s A v w x y _ _ ⟨t,e⟩ ⟨u,e'⟩=>by
 subst e e'
 have:=(SeqRoads2.EqGives.str x y t u).at A s
 rw [str_beq] at this; exact this
theorem isList_of {h : Heap} {a : Addr} {vs : List Value} {n : Nat} (e : h.get? a = some (listO vs n)) : h.IsList a vs.toArray:=⟨_,e,rfl,n,rfl⟩
theorem isTuple_of {h : Heap} {a : Addr} {vs : List Value} {n : Nat} (e : h.get? a = some (tupO vs n)) : h.IsTuple a vs.toArray:=⟨_,e,rfl,n,rfl⟩
theorem eqTy_list {α : Type} [DecidableEq α] {T : Ty α} {d : Nat} (hT : EqTy T d) (hd : Det T) : EqTy (tList T) (d + 1):=fun K s A v w xs ys hk hu hx hy=>by
 obtain ⟨a,vs,n,rfl,ha,hxs⟩:=id hx
 obtain ⟨b,ws,m,rfl,hb,hys⟩:=id hy
 have La:=isList_of (hk _ _ ha)
 have Lb:=isList_of (hk _ _ hb)
 by_cases hab : a = b
 ·subst hab
  have : xs = ys:=det_list hd hx hy
  subst this
  rw [decide_eq_true rfl]
  exact SeqAt.EqAt.same _
 ·have l1:=hxs.length
  have l2:=hys.length
  by_cases hl : xs.length = ys.length
  ·have hs : vs.toArray.size = ws.toArray.size:=by simp only [List.size_toArray]; lia
   have key:=SeqAt.RcAt.lists (A:=A) (e:=fun j=>decide (xs[j]? = ys[j]?)) La Lb hs (by lia) (fun j h1 h2=>by
    have h1' : j < vs.length:=by simpa using h1
    have h2' : j < ws.length:=by simpa using h2
    obtain ⟨x,ex,rx⟩:=hxs.getV (i:=j) (v:=vs[j]) (by simp [h1'])
    obtain ⟨y,ey,ry⟩:=hys.getV (i:=j) (v:=ws[j]) (by simp [h2'])
    have:=hT K s A.in1 vs[j] ws[j] x y hk (by show A.units + 1 + d < cLine; lia) rx ry
    rw [ex,ey]
    have e1 : decide (some x = some y) = decide (x = y):=by simp
    simp only [List.getElem_toArray]
    rw [e1]
    exact this)
   have e2 : ((List.range vs.toArray.size).all fun j=>decide (xs[j]? = ys[j]?)) = decide (xs = ys):=by
    rw [Bool.eq_iff_iff,List.all_eq_true]
    simp only [List.mem_range,decide_eq_true_eq,List.size_toArray]
    constructor
    ·intro h
     apply List.ext_getElem? fun i=>?_
     by_cases hi : i < vs.length
     ·exact h i hi
     ·rw [List.getElem?_eq_none (by lia),List.getElem?_eq_none (by lia)]
    ·rintro rfl _ _; rfl
   rw [e2] at key
   exact SeqAt.EqAt.of_refs hab key
  ·have hs : (vs.toArray.size != ws.toArray.size) = true:=by simp only [List.size_toArray,bne_iff_ne,ne_eq]; lia
   have key:=SeqAt.RcAt.lists_lengths (A:=A) La Lb hs (by lia)
   rw [decide_eq_false (fun e=>hl (congrArg List.length e))]
   exact SeqAt.EqAt.of_refs hab key
theorem eqTy_pair {α β : Type} [DecidableEq α] [DecidableEq β] {T : Ty α} {U : Ty β} {d : Nat} (hT : EqTy T d) (hU : EqTy U d) (dT : Det T) (dU : Det U) : EqTy (tPair T U) (d + 1):=fun K s A v w x y hk hu hx hy=>by
 obtain ⟨a,v1,v2,n,rfl,ha,h1,h2⟩:=id hx
 obtain ⟨b,w1,w2,m,rfl,hb,k1,k2⟩:=id hy
 by_cases hab : a = b
 ·subst hab
  have : x = y:=det_pair dT dU hx hy
  subst this
  rw [decide_eq_true rfl]
  exact SeqAt.EqAt.same _
 ·have key:=SeqAt.RcAt.tuples (A:=A) (e:=fun j=>if j = 0 then decide (x.1 = y.1) else decide (x.2 = y.2)) (isTuple_of (hk _ _ ha)) (isTuple_of (hk _ _ hb)) (by lia) (fun j q1 q2=>by
   have : j < 2:=by simpa using q1
   match j,this with
   | 0,_=>exact hT K s A.in1 v1 w1 x.1 y.1 hk (by show A.units + 1 + d < cLine; lia) h1 k1
   | 1,_=>exact hU K s A.in1 v2 w2 x.2 y.2 hk (by show A.units + 1 + d < cLine; lia) h2 k2)
  have e : ((List.range (min ([v1,v2] : List Value).toArray.size ([w1,w2] : List Value).toArray.size)).all (fun j=>if j = 0 then decide (x.1 = y.1) else decide (x.2 = y.2)) && ([v1,v2] : List Value).toArray.size == ([w1,w2] : List Value).toArray.size) = decide (x = y):=by
   obtain ⟨x1,x2⟩:=x
   obtain ⟨y1,y2⟩:=y
   simp [List.range_succ,Prod.ext_iff]
  rw [e] at key
  exact SeqAt.EqAt.of_refs hab key
section
variable {G : Gl} {n : Nat} {env : Env} {mu mu₁ mu₂ mu₃ nu : List Res} {K : KH} {A : Around} {s : Shared} {E : Value → Shared → Prop} {α β γ : Type} {T : Ty α} {x : α} {U : Ty β} {y : β} {V : Ty γ} {z : γ} {e l r : Expr} {pos : Pos}
theorem Ev.binop {op : Operator} (hl : Ev G n env mu l T x mu₁) (hr : Ev G n env mu₁ r U y mu₂) (hop : ∀ K a b,T.rel K a x → U.rel K b y → Vl G n K mu₂ (binaryOp op a b) V z mu₃) : Ev G n env mu (.BinOp l op r pos) V z mu₃:=fun K nu A s hA hs =>
 wpAny_BinOp (hl.use hA hs fun K1 a s1 h1 o1 r1=>hr.use hA o1 fun K2 b s2 h2 o2 r2=>(hop K2 a b (T.mono h2 r1) r2).use hA o2 fun K3 v s3 h3 o3 r3=>done (h1.trans (h2.trans h3)) o3 r3)
theorem Vl.toks {t : Sem Value} (h : ∀ A s,Room n A → wpAny G.M A t (fun v s'=>(∃ tk,s' = { s with toks:=tk }) ∧ T.rel K v x) noE s) : Vl G n K mu t T x mu:=fun nu A s hA hs =>
 wpAny_mono (wpAny_toks (h A s hA)) (fun v s' ⟨ht,⟨tk,e⟩,hr⟩=>by subst e; exact done (.refl K) (hs.toks tk ht) hr) fun _ _ x=>x.2
theorem Ev.add {i j : Int} (hl : Ev G n env mu l tInt i mu₁) (hr : Ev G n env mu₁ r tInt j mu₂) : Ev G n env mu (.BinOp l .Add r pos) tInt (i + j) mu₂ :=
 hl.binop hr fun K a b ⟨t,ea⟩ ⟨u,eb⟩=>by subst ea eb; exact .toks fun A s hA=>add_int ⟨⟨_,rfl⟩,_,rfl⟩
theorem Ev.sub {i j : Int} (hl : Ev G n env mu l tInt i mu₁) (hr : Ev G n env mu₁ r tInt j mu₂) : Ev G n env mu (.BinOp l .Sub r pos) tInt (i - j) mu₂ :=
 hl.binop hr fun K a b ⟨t,ea⟩ ⟨u,eb⟩=>by subst ea eb; exact .toks fun A s hA=>sub_int ⟨⟨_,rfl⟩,_,rfl⟩
theorem Ev.fdiv {i j : Int} (hl : Ev G n env mu l tInt i mu₁) (hr : Ev G n env mu₁ r tInt j mu₂) (hj : 0 < j) (hj2 : j < 1073741824) : Ev G n env mu (.BinOp l .FloorDiv r pos) tInt (i / j) mu₂ :=
 hl.binop hr fun K a b ⟨t,ea⟩ ⟨u,eb⟩=>by
  subst ea eb
  refine .toks fun A s hA=>floordiv_int (by lia) ⟨⟨_,rfl⟩,s.toks,?_⟩ (.inl (PyProof.noPylong_small (by lia)))
  rw [Int.fdiv_eq_ediv_of_nonneg _ (by lia)]
theorem Ev.fmod {i j : Int} (hl : Ev G n env mu l tInt i mu₁) (hr : Ev G n env mu₁ r tInt j mu₂) (hj : 0 < j) : Ev G n env mu (.BinOp l .Mod r pos) tInt (i % j) mu₂ :=
 hl.binop hr fun K a b ⟨t,ea⟩ ⟨u,eb⟩=>by
  subst ea eb
  refine .toks fun A s hA=>mod_int' (by lia) ⟨⟨_,rfl⟩,s.toks,?_⟩
  rw [Int.fmod_eq_emod_of_nonneg _ (by lia)]
theorem Ev.pow {i j : Int} (hl : Ev G n env mu l tInt i mu₁) (hr : Ev G n env mu₁ r tInt j mu₂) (hj : 0 ≤ j) (hsz : (Builtin.Int.intBits i : Int) * j ≤ 2 ^ 27) : Ev G n env mu (.BinOp l .Pow r pos) tInt (i ^ j.toNat) mu₂ :=
 hl.binop hr fun K a b ⟨t,ea⟩ ⟨u,eb⟩=>by subst ea eb; exact .toks fun A s hA=>pow_int hj hsz ⟨⟨_,rfl⟩,_,rfl⟩
theorem Ev.cat {a b : Str} (hl : Ev G n env mu l tStr a mu₁) (hr : Ev G n env mu₁ r tStr b mu₂) (hsz : a.length + b.length ≤ sizeLine) : Ev G n env mu (.BinOp l .Add r pos) tStr (a ++ b) mu₂ :=
 hl.binop hr fun K v w ⟨t,ea⟩ ⟨u,eb⟩=>by subst ea eb; exact .toks fun A s hA=>add_str (fun t' tk=>⟨⟨_,rfl⟩,_,rfl⟩) hsz
theorem done_list {K₀ : KH} {vs : List Value} {xs : List α} (hle : KLe K₀ K) (ho : Own G K (mu ++ nu) s) (hr : All2 (T.rel K) vs xs) :
  ∃ K' mu',KLe K₀ K' ∧ Own G K' (mu' ++ nu) { s with heap:=s.heap.push { cls:=.type "list", data:=.seq vs.toArray } } ∧ mu' = mu ∧ (tList T).rel K' (.ref s.heap.objs.size) xs :=
 have hk:=kput_le (K:=K) (o:=listO vs 0) ho.fresh
 ⟨kput K s.heap.objs.size (listO vs 0),mu,hle.trans hk,ho.push (listO vs 0),rfl,_,vs,0,rfl,kput_self ..,hr.mono fun _ _=>T.mono hk⟩
theorem done_pair {K₀ : KH} {v w : Value} (hle : KLe K₀ K) (ho : Own G K (mu ++ nu) s) (hr : T.rel K v x) (hw : U.rel K w y) :
  ∃ K' mu',KLe K₀ K' ∧ Own G K' (mu' ++ nu) { s with heap:=s.heap.push { cls:=.type "tuple", data:=.seq ([v,w] : List Value).toArray } } ∧ mu' = mu ∧ (tPair T U).rel K' (.ref s.heap.objs.size) (x,y) :=
 have hk:=kput_le (K:=K) (o:=tupO [v,w] 0) ho.fresh
 ⟨kput K s.heap.objs.size (tupO [v,w] 0),mu,hle.trans hk,ho.push (tupO [v,w] 0),rfl,_,v,w,0,rfl,kput_self ..,T.mono hk hr,U.mono hk hw⟩
theorem done_trip {K₀ : KH} {v w q : Value} (hle : KLe K₀ K) (ho : Own G K (mu ++ nu) s) (hr : T.rel K v x) (hw : U.rel K w y) (hq : V.rel K q z) :
  ∃ K' mu',KLe K₀ K' ∧ Own G K' (mu' ++ nu) { s with heap:=s.heap.push { cls:=.type "tuple", data:=.seq ([v,w,q] : List Value).toArray } } ∧ mu' = mu ∧ (tTrip T U V).rel K' (.ref s.heap.objs.size) (x,y,z) :=
 have hk:=kput_le (K:=K) (o:=tupO [v,w,q] 0) ho.fresh
 ⟨kput K s.heap.objs.size (tupO [v,w,q] 0),mu,hle.trans hk,ho.push (tupO [v,w,q] 0),rfl,_,v,w,q,0,rfl,kput_self ..,T.mono hk hr,U.mono hk hw,V.mono hk hq⟩
theorem Ev.addL {xs ys : List α} (hl : Ev G n env mu l (tList T) xs mu₁) (hr : Ev G n env mu₁ r (tList T) ys mu₂) (hsz : xs.length + ys.length ≤ sizeLine) : Ev G n env mu (.BinOp l .Add r pos) (tList T) (xs ++ ys) mu₂ :=
 hl.binop hr fun K v w hv hw=>fun nu A s hA hs=>by
  obtain ⟨a,vs,m,rfl,ha,h1⟩:=hv
  obtain ⟨b,ws,k,rfl,hb,h2⟩:=hw
  refine P.add_list (items:=vs.toArray) (items2:=ws.toArray) (hs.k _ _ ha) (hs.k _ _ hb) ?_ (by simp only [List.size_toArray,h1.length,h2.length]; exact hsz)
  have : vs.toArray ++ ws.toArray = (vs ++ ws).toArray:=by simp
  rw [this]
  exact done_list (.refl K) hs (h1.append h2)
theorem Ev.cmp {op : CmpOp} (hl : Ev G n env mu l T x mu₁) (hr : Ev G n env mu₁ r U y mu₂) (hop : ∀ K a b,T.rel K a x → U.rel K b y → Vl G n K mu₂ (compareOp op a b) V z mu₃)
  (hm : behindInMarks op r = false:=by with_unfolding_all rfl) : Ev G n env mu (.Compare l [op] [r] pos) V z mu₃:=fun K nu A s hA hs =>
 wpAny_Compare1 (hl.use hA hs fun K1 a s1 h1 o1 r1=>hr.use hA o1 fun K2 b s2 h2 o2 r2=>(hop K2 a b (T.mono h2 r1) r2).use hA o2 fun K3 v s3 h3 o3 r3=>done (h1.trans (h2.trans h3)) o3 r3) hm
theorem Cond.cmp {op : CmpOp} {b : Bool} (hl : Ev G n env mu l T x mu₁) (hr : Ev G n env mu₁ r U y mu₂) (hop : ∀ K v w,T.rel K v x → U.rel K w y → Vl G n K mu₂ (compareOp op v w) tBool b mu₃)
  (hm : behindInMarks op r = false:=by with_unfolding_all rfl) : Cond G n env mu (.Compare l [op] [r] pos) b mu₃:=fun K nu A s hA hs =>
 wpAny_isTrue_Compare1 (hl.use hA hs fun K1 a s1 h1 o1 r1=>hr.use hA o1 fun K2 b s2 h2 o2 r2=>(hop K2 a b (T.mono h2 r1) r2).use hA o2 fun K3 v s3 h3 o3 r3=>by
  have e : v = .bool _:=r3
  subst e
  exact wpAny_truthy_bool ⟨K3,mu₃,h1.trans (h2.trans h3),o3,rfl,rfl⟩) hm
noncomputable def Cmp (G : Gl) (op : CmpOp) {α β : Type} (T : Ty α) (x : α) (U : Ty β) (y : β) (b : Bool) : Prop:=∀ n K mu v w,T.rel K v x → U.rel K w y → Vl G n K mu (compareOp op v w) tBool b mu
theorem Ev.ofCmp {op : CmpOp} {b : Bool} (h : Cmp G op T x U y b) (hl : Ev G n env mu l T x mu₁) (hr : Ev G n env mu₁ r U y mu₂) (hm : behindInMarks op r = false:=by with_unfolding_all rfl) : Ev G n env mu (.Compare l [op] [r] pos) tBool b mu₂:=hl.cmp hr (fun K a b h1 h2=>h n K _ a b h1 h2) hm
theorem Cond.ofCmp {op : CmpOp} {b : Bool} (h : Cmp G op T x U y b) (hl : Ev G n env mu l T x mu₁) (hr : Ev G n env mu₁ r U y mu₂) (hm : behindInMarks op r = false:=by with_unfolding_all rfl) : Cond G n env mu (.Compare l [op] [r] pos) b mu₂:=Cond.cmp hl hr (fun K a b h1 h2=>h n K _ a b h1 h2) hm
theorem Vl.same {t : Sem Value} (h : ∀ A s,Room n A → (∀ b o,K b = some o → s.heap.get? b = some o) → wpAny G.M A t (fun v s'=>s' = s ∧ T.rel K v x) noE s) : Vl G n K mu t T x mu:=fun nu A s hA hs =>
 wpAny_mono (h A s hA hs.k) (fun v s' ⟨e,hr⟩=>by subst e; exact done (.refl K) hs hr) fun _ _ x=>x
theorem cmp_eqI {i j : Int} : Cmp G .Eq tInt i tInt j (decide (i = j)):=fun n K mu v w ⟨t,e⟩ ⟨u,e'⟩=>by subst e e'; exact .same fun A s _ _=>eq_int ⟨rfl,rfl⟩
theorem cmp_neI {i j : Int} : Cmp G .NotEq tInt i tInt j (!decide (i = j)):=fun n K mu v w ⟨t,e⟩ ⟨u,e'⟩=>by subst e e'; exact .same fun A s _ _=>ne_int ⟨rfl,rfl⟩
theorem cmp_ltI {i j : Int} : Cmp G .Lt tInt i tInt j (decide (i < j)):=fun n K mu v w ⟨t,e⟩ ⟨u,e'⟩=>by subst e e'; exact .same fun A s _ _=>lt_int ⟨rfl,rfl⟩
theorem cmp_gtI {i j : Int} : Cmp G .Gt tInt i tInt j (decide (j < i)):=fun n K mu v w ⟨t,e⟩ ⟨u,e'⟩=>by subst e e'; exact .same fun A s _ _=>gt_int ⟨rfl,rfl⟩
theorem strB (x y : Str) : (x == y) = decide (x = y):=by
 by_cases h : x = y
 ·subst h; simp
 ·simp [h]
theorem cmp_eqS {i j : Str} : Cmp G .Eq tStr i tStr j (decide (i = j)):=fun n K mu v w ⟨t,e⟩ ⟨u,e'⟩=>by
 subst e e'; exact .same fun A s _ _=>eq_str ⟨rfl,by show Value.bool _ = _; rw [strB]⟩
theorem cmp_neS {i j : Str} : Cmp G .NotEq tStr i tStr j (!decide (i = j)):=fun n K mu v w ⟨t,e⟩ ⟨u,e'⟩=>by
 subst e e'; exact .same fun A s _ _=>ne_str ⟨rfl,by show Value.bool _ = _; rw [show (i != j) = !(i == j) from rfl,strB]⟩
theorem any_of {T : Ty α} [DecidableEq α] (hd : Det T) {x : α} {e : Value → Bool} (he : ∀ y z,T.rel K y z → e y = decide (z = x)) : ∀ {vs : List Value} {xs : List α},All2 (T.rel K) vs xs → vs.any e = xs.any (fun z=>decide (z = x))
 | [],[],_=>rfl
 | v :: vs,z :: zs,⟨a,b⟩=>by rw [List.any_cons,List.any_cons,he v z a,any_of hd he b]
theorem any_mem [DecidableEq α] (xs : List α) (x : α) : xs.any (fun z=>decide (z = x)) = decide (x ∈ xs):=by
 rw [Bool.eq_iff_iff,List.any_eq_true]
 simp
open Classical in
theorem in_facts [DecidableEq α] {d : Nat} (hT : EqTy T d) (hD : Det T) {K : KH} {s : Shared} {A : Around} {w : Value} {x : α} {vs : List Value} {xs : List α} (hk : ∀ b o,K b = some o → s.heap.get? b = some o) (hu : A.units + 1 + d < cLine) (hx : T.rel K w x) (h : All2 (T.rel K) vs xs) :
  ∃ e : Value → Bool,(∀ y,y ∈ vs.toArray → SeqAt.EqAt A.in1 s y w (e y)) ∧ vs.any e = decide (x ∈ xs):=by
 have key : ∀ y z,T.rel K y z → (decide (∃ q,T.rel K y q ∧ q = x)) = decide (z = x):=fun y z hr=>by
  rw [Bool.eq_iff_iff]
  simp only [decide_eq_true_eq]
  exact ⟨fun ⟨q,a,b⟩=>by rw [hD hr a,b],fun e=>⟨z,hr,e⟩⟩
 refine ⟨fun y=>decide (∃ q,T.rel K y q ∧ q = x),fun y hy=>?_,?_⟩
 ·have hy' : y ∈ vs:=by simpa using hy
  obtain ⟨i,hi,ei⟩:=List.mem_iff_getElem.mp hy'
  obtain ⟨z,_,hz⟩:=h.getV (i:=i) (v:=y) (by rw [List.getElem?_eq_getElem hi,ei])
  have q:=hT K s A.in1 y w z x hk (by show A.units + 1 + d < cLine; lia) hz hx
  show SeqAt.EqAt A.in1 s y w (decide (∃ q,T.rel K y q ∧ q = x))
  rw [key y z hz]
  exact q
 ·rw [any_of hD key h,any_mem]
end
noncomputable def LiV (G : Gl) (K : KH) (mu : List Res) (v : Value) {α : Type} (T : Ty α) (xs : List α) : Prop :=
 ∃ a,v = .ref a ∧ ∀ K' nu s,KLe K K' → Own G K' (mu ++ nu) s → ∃ vs n,s.heap.get? a = some (listO vs n) ∧ All2 (T.rel K') vs xs
noncomputable def EvL (G : Gl) (n : Nat) (env : Env) (mu : List Res) (e : Expr) {α : Type} (T : Ty α) (xs : List α) (mu' : List Res) : Prop :=
 ∀ K,Tri G n K mu (eval e env) fun K' mu'' v=>mu'' = mu' ∧ LiV G K' mu' v T xs
noncomputable def clipI (len : Nat) (v : Option Int) (d : Nat) : Nat:=match v with
 | none=>d
 | some i=>if i < 0 then (i + len).toNat else min i.toNat len
noncomputable def pySlice {α : Type} (xs : List α) (lo hi : Option Int) : List α :=
 (xs.drop (clipI xs.length lo 0)).take (clipI xs.length hi xs.length - clipI xs.length lo 0)
theorem filterMap_range' {α : Type} (xs : List α) : ∀ (m a : Nat),((List.range' a m).filterMap fun i=>xs[i]?) = (xs.drop a).take m
 | 0,a=>by simp
 | m + 1,a=>by
  rw [List.range'_succ,List.filterMap_cons]
  by_cases h : a < xs.length
  ·rw [List.getElem?_eq_getElem h]
   simp only
   rw [filterMap_range' xs m (a + 1),List.drop_eq_getElem_cons h,List.take_succ_cons]
  ·rw [List.getElem?_eq_none (by lia)]
   simp only
   rw [filterMap_range' xs m (a + 1),List.drop_of_length_le (by lia),List.drop_of_length_le (by lia)]
   simp
theorem sliceRange_one (a b : Nat) : sliceRange (a : Int) (b : Int) 1 = List.range' a (b - a):=by
 unfold sliceRange
 apply List.ext_getElem
 ·simp only [List.length_map,List.length_range,List.length_range']
  split <;> (try split) <;> lia
 ·intro i h1 h2
  simp only [List.getElem_map,List.getElem_range,List.getElem_range']
  lia
theorem clip_eq (len : Nat) (v : Option Int) (d : Nat) : ((match v with | none=>(d : Int) | some i=>max 0 (min (if i < 0 then i + (len : Int) else i) (len : Int))) : Int) = (clipI len v d : Int):=by
 cases v with
 | none=>rfl
 | some i=>simp only [clipI]; split <;> lia
theorem bounds_eq (lo hi : Option Int) (len : Nat) : sliceBounds lo hi none len = ((clipI len lo 0 : Int),(clipI len hi len : Int),1):=by
 rw [← clip_eq,← clip_eq]
 cases lo <;> cases hi <;> simp [sliceBounds]
theorem slicePick_eq (vs : List Value) (lo hi : Option Int) : slicePick vs.toArray lo hi none = (pySlice vs lo hi).toArray:=by
 unfold slicePick pySlice
 rw [bounds_eq]
 simp only [List.size_toArray]
 rw [sliceRange_one]
 congr 1
 have : (fun (x : Nat)=>vs.toArray[x]?) = fun (i : Nat)=>vs[i]?:=by funext i; simp
 rw [this,filterMap_range']
theorem All2.slice {α β : Type} {R : β → α → Prop} {vs : List β} {xs : List α} (h : All2 R vs xs) (lo hi : Option Int) : All2 R (pySlice vs lo hi) (pySlice xs lo hi):=by
 unfold pySlice
 rw [h.length]
 exact (h.drop _).take _
theorem pySlice_upto {α : Type} (xs : List α) (i : Int) (h : 0 ≤ i) : pySlice xs none (some i) = xs.take i.toNat:=by
 unfold pySlice clipI
 simp only [Int.not_lt.mpr h,if_false,List.drop_zero,Nat.sub_zero]
 rw [← List.take_eq_take_min]
theorem pySlice_from {α : Type} (xs : List α) (i : Int) (h : 0 ≤ i) : pySlice xs (some i) none = xs.drop i.toNat:=by
 unfold pySlice clipI
 simp only [Int.not_lt.mpr h,if_false]
 by_cases hi : i.toNat ≤ xs.length
 ·rw [Nat.min_eq_left hi,List.take_of_length_le (by simp)]
 ·rw [Nat.min_eq_right (by lia),List.drop_of_length_le (by lia),List.drop_of_length_le (by lia)]; simp
theorem pySlice_one {α : Type} (xs : List α) (i : Int) (h : 0 ≤ i) : pySlice xs (some i) (some (i + 1)) = (xs.drop i.toNat).take 1:=by
 unfold pySlice clipI
 simp only [Int.not_lt.mpr h,Int.not_lt.mpr (show 0 ≤ i + 1 by lia),if_false]
 by_cases hi : i.toNat < xs.length
 ·have e : (i + 1).toNat = i.toNat + 1:=by lia
  rw [e,Nat.min_eq_left (by lia),Nat.min_eq_left (by lia)]
  congr 1; lia
 ·rw [Nat.min_eq_right (by lia),List.drop_of_length_le (by lia),List.drop_of_length_le (by lia)]; simp
theorem pySlice_init {α : Type} (xs : List α) : pySlice xs none (some (-1)) = xs.dropLast:=by
 unfold pySlice clipI
 simp only [List.drop_zero,Nat.sub_zero,show (-1 : Int) < 0 by decide,if_true]
 rw [List.dropLast_eq_take]
 congr 1; lia
theorem pySlice_all {α : Type} (xs : List α) : pySlice xs none none = xs:=by
 unfold pySlice clipI; simp
section
variable {G : Gl} {n : Nat} {env : Env} {mu mu₁ mu₂ mu₃ nu : List Res} {K : KH} {A : Around} {s : Shared} {E : Value → Shared → Prop} {α β γ : Type} {T : Ty α} {x : α} {U : Ty β} {y : β} {V : Ty γ} {z : γ} {e l r : Expr} {pos p : Pos} {xs ys : List α}
theorem LiV.frozen {v : Value} (h : (tList T).rel K v xs) : LiV G K mu v T xs:=by
 obtain ⟨a,vs,m,rfl,hk,hr⟩:=h
 exact ⟨a,rfl,fun K' nu s hle hs=>⟨vs,m,hs.k _ _ (hle _ _ hk),hr.mono fun _ _=>T.mono hle⟩⟩
theorem LiV.owned {a : Addr} (h : rList a T xs ∈ mu) : LiV G K mu (.ref a) T xs:=⟨a,rfl,fun K' nu s hle hs=>by
 obtain ⟨o,e,vs,m,rfl,hr⟩:=hs.get (List.mem_append_left nu h)
 exact ⟨vs,m,e,hr⟩⟩
theorem Ev.toL (h : Ev G n env mu e (tList T) xs mu₁) : EvL G n env mu e T xs mu₁:=fun K=>(h K).mono fun K' mu' v _ ⟨a,b⟩=>⟨a,.frozen b⟩
theorem Ev.toLO {a : Addr} (h : Ev G n env mu e tVal (.ref a) mu₁) (hm : rList a T xs ∈ mu₁) : EvL G n env mu e T xs mu₁:=fun K=>(h K).mono fun K' mu' v _ ⟨e,b⟩=>⟨e,by
 have b : v = .ref a:=b
 subst b; exact .owned hm⟩
theorem EvL.use {Q : Value → Shared → Prop} (h : EvL G n env mu e T xs mu₁) (hA : Room n A) (hs : Own G K (mu ++ nu) s) (hq : ∀ K' v s',KLe K K' → Own G K' (mu₁ ++ nu) s' → LiV G K' mu₁ v T xs → Q v s') : wpAny G.M A (eval e env) Q E s :=
 Tri.use (h K) hA hs fun K' mu'' v s' hle ho hr=>by obtain ⟨rfl,hr⟩:=hr; exact hq K' v s' hle ho hr
theorem typeIs_list {a : Addr} {vs : List Value} {m : Nat} (h : s.heap.get? a = some (listO vs m)) : s.TypeIs (.ref a) "list" := ⟨_,h,rfl⟩
theorem Ev.idx {i : Int} (hl : EvL G n env mu l T xs mu₁) (hr : Ev G n env mu₁ r tInt i mu₁) (hi : 0 ≤ i) (hx : xs[i.toNat]? = some x) (hb : i < 2 ^ 63)
  (hs : ∀ a u,subscripted r false (.ref a) (.int i u) = operate [.ref a,.int i u] (getItem (.ref a) (.int i u)):=by intro _ _; with_unfolding_all rfl) : Ev G n env mu (.Subscript l r pos) T x mu₁:=fun K nu A s hA hs' =>
 Subscript_ (hl.use hA hs' fun K1 v s1 h1 o1 L1=>hr.use hA o1 fun K2 w s2 h2 o2 r2=>by
  obtain ⟨a,rfl,L⟩:=L1
  obtain ⟨vs,m,e,hv⟩:=L K2 nu s2 h2 o2
  obtain ⟨u,rfl⟩:=r2
  obtain ⟨q,eq,hq⟩:=hv.get hx
  exact tail_any (typeIs_list e) slot_list_getitem.lookup (wpAny_getItem_list (isList_of e) hi hb (by simpa using eq) (done (h1.trans h2) o2 hq)) (hs a u))
theorem Ev.idxLast {i : Int} (hl : EvL G n env mu l T xs mu₁) (hr : Ev G n env mu₁ r tInt i mu₁) (hi : i = -1) (hx : xs.getLast? = some x) (hz : xs.length ≤ sizeLine)
  (hs : ∀ a u,subscripted r false (.ref a) (.int i u) = operate [.ref a,.int i u] (getItem (.ref a) (.int i u)):=by intro _ _; with_unfolding_all rfl) : Ev G n env mu (.Subscript l r pos) T x mu₁:=fun K nu A s hA hs' =>
 Subscript_ (hl.use hA hs' fun K1 v s1 h1 o1 L1=>hr.use hA o1 fun K2 w s2 h2 o2 r2=>by
  obtain ⟨a,rfl,L⟩:=L1
  obtain ⟨vs,m,e,hv⟩:=L K2 nu s2 h2 o2
  obtain ⟨u,rfl⟩:=r2
  rw [List.getLast?_eq_getElem?] at hx
  have hlen : 0 < xs.length:=by
   cases xs with
   | nil=>simp at hx
   | cons _ _=>simp
  obtain ⟨q,eq,hq⟩:=hv.get hx
  have l1:=hv.length
  refine tail_any (typeIs_list e) slot_list_getitem.lookup (wpAny_getItem_list_neg (isList_of e) (by lia) (by simp only [List.size_toArray]; lia) (by lia) (x:=q) ?_ (done (h1.trans h2) o2 hq)) (hs a u)
  have : (i + (vs.toArray.size : Int)).toNat = xs.length - 1:=by simp only [List.size_toArray]; lia
  rw [this]
  simpa using eq)
theorem Ev.fst {q : α × β} (hl : Ev G n env mu l (tPair T U) q mu₁) (hr : Ev G n env mu₁ r tInt 0 mu₁)
  (hs : ∀ a u,subscripted r false (.ref a) (.int 0 u) = operate [.ref a,.int 0 u] (getItem (.ref a) (.int 0 u)):=by intro _ _; with_unfolding_all rfl) : Ev G n env mu (.Subscript l r pos) T q.1 mu₁:=fun K nu A s hA hs' =>
 Subscript_ (hl.use hA hs' fun K1 v s1 h1 o1 r1=>hr.use hA o1 fun K2 w s2 h2 o2 r2=>by
  obtain ⟨a,v1,v2,m,rfl,hk,ha,hb⟩:=(tPair T U).mono h2 r1
  obtain ⟨u,rfl⟩:=r2
  exact item_tupleT (l:=[v1,v2]) (j:=0) ⟨_,o2.k _ _ hk,rfl,m,rfl⟩ (by decide) (by decide) rfl rfl (done (h1.trans h2) o2 ha) (hs a u))
theorem Ev.snd {q : α × β} (hl : Ev G n env mu l (tPair T U) q mu₁) (hr : Ev G n env mu₁ r tInt 1 mu₁)
  (hs : ∀ a u,subscripted r false (.ref a) (.int 1 u) = operate [.ref a,.int 1 u] (getItem (.ref a) (.int 1 u)):=by intro _ _; with_unfolding_all rfl) : Ev G n env mu (.Subscript l r pos) U q.2 mu₁:=fun K nu A s hA hs' =>
 Subscript_ (hl.use hA hs' fun K1 v s1 h1 o1 r1=>hr.use hA o1 fun K2 w s2 h2 o2 r2=>by
  obtain ⟨a,v1,v2,m,rfl,hk,ha,hb⟩:=(tPair T U).mono h2 r1
  obtain ⟨u,rfl⟩:=r2
  exact item_tupleT (l:=[v1,v2]) (j:=1) ⟨_,o2.k _ _ hk,rfl,m,rfl⟩ (by decide) (by decide) rfl rfl (done (h1.trans h2) o2 hb) (hs a u))
theorem Ev.strIdx {a : Str} {i : Int} (hl : Ev G n env mu l tStr a mu₁) (hr : Ev G n env mu₁ r tInt i mu₂) (h1 : -(a.length : Int) ≤ i) (h2 : i < a.length) (hf : fitsSsize i = true)
  (hs : ∀ t u,subscripted r false (.str a t) (.int i u) = operate [.str a t,.int i u] (getItem (.str a t) (.int i u)):=by intro _ _; with_unfolding_all rfl) : Ev G n env mu (.Subscript l r pos) tStr (Txt.item a i) mu₂:=fun K nu A s hA hs' =>
 Subscript_ (hl.use hA hs' fun K1 v s1 h1' o1 r1=>hr.use hA o1 fun K2 w s2 h2' o2 r2=>by
  obtain ⟨t,rfl⟩:=r1
  obtain ⟨u,rfl⟩:=r2
  exact item_str hf h1 h2 (fun _=>done (h1'.trans h2') (o2.toks _) ⟨_,rfl⟩) (hs t u) (by intro _; cases l <;> rfl))
noncomputable def Prt (G : Gl) (n : Nat) (env : Env) (mu : List Res) (e : Option Expr) (i : Option Int) : Prop:=match e,i with
 | none,none=>True
 | some e,some i=>Ev G n env mu e tInt i mu
 | _,_=>False
theorem Prt.use {o : Option Expr} {i : Option Int} {Q : Value → Shared → Prop} (h : Prt G n env mu o i) (hA : Room n A) (hs : Own G K (mu ++ nu) s) (hq : ∀ K' v s',KLe K K' → Own G K' (mu ++ nu) s' → IsPart v i → Q v s') : wpAny G.M A (evalPart o env) Q E s:=by
 cases o with
 | none=>cases i with
  | none=>exact wpAny_evalPart_none (hq K _ s (.refl K) hs .none)
  | some i=>exact h.elim
 | some e=>cases i with
  | none=>exact h.elim
  | some i=>exact wpAny_evalPart_some (Ev.use (E:=E) h hA hs fun K' v s' hle ho hr=>by obtain ⟨t,rfl⟩:=hr; exact hq K' _ s' hle ho (.int i t))
theorem Ev.slice {lo hi : Option Expr} {i j : Option Int} (hl : EvL G n env mu l T xs mu₁) (h1 : Prt G n env mu₁ lo i) (h2 : Prt G n env mu₁ hi j) (hz : xs.length ≤ sizeLine) (ht : ∀ o r,letTemporaryGo l o r = pure () ∨ True:=by intro _ _; exact .inr trivial) :
  Ev G n env mu (.Subscript l (.Slice lo hi none p) pos) (tList T) (pySlice xs i j) mu₁:=fun K nu A s hA hs'=>by
 have key : ∀ {Q : Value → Shared → Prop},wpAny G.M A (eval l env) (fun o s₁=>wpAny G.M A (eval (.Slice lo hi none p) env) (fun i s₂=>wpAny G.M A (subscriptTail l (.Slice lo hi none p) o i) Q noE s₂) noE s₁) noE s → wpAny G.M A (eval (.Subscript l (.Slice lo hi none p) pos) env) Q noE s:=fun h=>Subscript_ h
 refine key (hl.use hA hs' fun K1 v s1 q1 o1 L1=>?_)
 refine wpAny_Slice (h1.use hA o1 fun K2 vl s2 q2 o2 p2=>h2.use hA o2 fun K3 vu s3 q3 o3 p3=>wpAny_evalPart_none ?_)
 obtain ⟨a,rfl,L⟩:=L1
 obtain ⟨vs,m,e,hv⟩:=L K3 nu s3 (q2.trans q3) o3
 have o4:=o3.push { cls:=.type "slice", data:=.fields #[vl,vu,.none] }
 have e4:=Heap.get?_push_of_some { cls:=.type "slice", data:=.fields #[vl,vu,.none] } e
 refine tail_any (ops:=_) (typeIs_list (s:={ s3 with heap:=_ }) e4) slot_list_getitem.lookup (wpAny_getItem_list_slice (isList_of e4) (Heap.IsSliceOf.new ..) p2 p3 .none (by simp) ?_ (by rw [List.size_toArray,hv.length]; exact hz)) rfl
 rw [slicePick_eq]
 exact done_list (q1.trans (q2.trans (q3.trans (kput_le o3.fresh)))) o4 ((hv.slice i j).mono fun _ _=>T.mono (kput_le o3.fresh))
end
noncomputable def ARel (K : KH) (vs : List Value) (ts : List TV) : Prop:=All2 (fun v (t : TV)=>t.T.rel K v t.x) vs ts
theorem ARel.mono {K K' : KH} (hle : KLe K K') {vs : List Value} {ts : List TV} (h : ARel K vs ts) : ARel K' vs ts:=All2.mono (fun _ t=>t.T.mono hle) h
noncomputable def EvA (G : Gl) (n : Nat) (env : Env) (mu : List Res) (pos : Pos) (es : List Expr) (ts : List TV) (mu' : List Res) : Prop :=
 ∀ K,Tri G n K mu (spliced (backTo pos (starEach es env))) fun K' mu'' vs=>mu'' = mu' ∧ ARel K' vs ts
noncomputable def EvEs (G : Gl) (n : Nat) (env : Env) (mu : List Res) (pos : Pos) (es : List Expr) {α : Type} (T : Ty α) (xs : List α) (mu' : List Res) : Prop :=
 ∀ K,Tri G n K mu (spliced (backTo pos (starEach es env))) fun K' mu'' vs=>mu'' = mu' ∧ All2 (T.rel K') vs xs
noncomputable def Cal (G : Gl) (n : Nat) (f : Value) (ts : List TV) (mu : List Res) {α : Type} (T : Ty α) (x : α) (mu' : List Res) : Prop :=
 ∀ K vs,ARel K vs ts → Vl G n K mu (call f vs) T x mu'
section
variable {G : Gl} {n : Nat} {env : Env} {mu mu₁ mu₂ mu₃ nu : List Res} {K : KH} {A : Around} {s : Shared} {E : Value → Shared → Prop} {α β γ : Type} {T : Ty α} {x : α} {U : Ty β} {y : β} {V : Ty γ} {z : γ} {e l r : Expr} {pos p : Pos} {xs ys : List α} {es : List Expr} {ts : List TV}
noncomputable def Tru (G : Gl) {α : Type} (T : Ty α) (x : α) (b : Bool) : Prop:=∀ n K mu v,T.rel K v x → Tri G n K mu (truthy v) fun _ mu' b'=>mu' = mu ∧ b' = b
theorem tru_bool {b : Bool} : Tru G tBool b b:=fun n K mu v e nu A s hA hs=>by have e : v = .bool b:=e; subst e; exact wpAny_truthy_bool ⟨K,mu,.refl K,hs,rfl,rfl⟩
theorem tru_none : Tru G tNone () false:=fun n K mu v e nu A s hA hs=>by have e : v = .none:=e; subst e; exact truthy_none ⟨K,mu,.refl K,hs,rfl,rfl⟩
theorem tru_str {a : Str} (hz : a.length ≤ sizeLine) : Tru G tStr a (a.length != 0):=fun n K mu v ⟨t,e⟩ nu A s hA hs=>by
 subst e
 have h24 : sizeLine = 2 ^ 24:=rfl
 refine P.truthy_str (by lia) ⟨K,mu,.refl K,hs.toks _,rfl,?_⟩
 rw [Bool.eq_iff_iff]; simp
theorem tru_list (hz : xs.length ≤ sizeLine) : Tru G (tList T) xs (!xs.isEmpty):=fun n K mu v ⟨a,vs,m,e,hk,hr⟩ nu A s hA hs=>by
 subst e
 have h24 : sizeLine = 2 ^ 24:=rfl
 have hl:=hr.length
 refine wpAny_truthy_list (isList_of (hs.k _ _ hk)) (by simp only [List.size_toArray]; lia) ⟨K,mu,.refl K,hs.toks _,rfl,?_⟩
 cases vs <;> cases xs <;> simp_all
theorem Cond.val {b : Bool} (h : Ev G n env mu e T x mu₁) (ht : Tru G T x b) (he : isTrue e env (eval e env) = (do let v ← eval e env; standAt e.pos; PySem.holding [v] (truthy v)):=by rfl) : Cond G n env mu e b mu₁:=fun K nu A s hA hs =>
 wpAny_isTrue_value (h.use hA hs fun K1 v s1 h1 o1 r1=>Tri.use (ht n K1 mu₁ v r1) hA o1 fun K2 mu2 b' s2 h2 o2 ⟨e1,e2⟩=>by subst e1 e2; exact ⟨K2,mu2,h1.trans h2,o2,rfl,rfl⟩) he
theorem Cond.not {b : Bool} {a : Expr} (h : Cond G n env mu a b mu₁) : Cond G n env mu (.UnaryOp .Not a pos) (!b) mu₁:=fun K nu A s hA hs =>
 wpAny_isTrue_Not (h.use hA hs fun K1 s1 h1 o1=>⟨K1,mu₁,h1,o1,rfl,rfl⟩)
theorem Cond.conv {b b' : Bool} (h : Cond G n env mu e b mu₁) (hb : b = b') : Cond G n env mu e b' mu₁:=hb ▸ h
noncomputable def CondA (G : Gl) (n : Nat) (env : Env) (mu : List Res) (op : BoolOp) (es : List Expr) (b : Bool) (mu' : List Res) : Prop:=∀ K,Tri G n K mu (allTrue op es env) fun _ mu'' b'=>mu'' = mu' ∧ b' = b
theorem CondA.use {op : BoolOp} {b : Bool} {Q : Bool → Shared → Prop} (h : CondA G n env mu op es b mu₁) (hA : Room n A) (hs : Own G K (mu ++ nu) s) (hq : ∀ K' s',KLe K K' → Own G K' (mu₁ ++ nu) s' → Q b s') : wpAny G.M A (allTrue op es env) Q E s :=
 Tri.use (h K) hA hs fun K' mu'' v s' hle ho hr=>by obtain ⟨rfl,rfl⟩:=hr; exact hq K' s' hle ho
theorem Cond.boolOp {op : BoolOp} {b : Bool} (h : CondA G n env mu op es b mu₁) : Cond G n env mu (.BoolOp op es pos) b mu₁:=fun K nu A s hA hs=>wpAny_isTrue_BoolOp (h K nu A s hA hs)
theorem CondA.andNil : CondA G n env mu .And [] true mu:=fun K nu A s hA hs=>wpAny_allTrue_And_nil ⟨K,mu,.refl K,hs,rfl,rfl⟩
theorem CondA.orNil : CondA G n env mu .Or [] false mu:=fun K nu A s hA hs=>wpAny_allTrue_Or_nil ⟨K,mu,.refl K,hs,rfl,rfl⟩
theorem CondA.and {b c : Bool} (h : Cond G n env mu e b mu₁) (hr : b = true → CondA G n env mu₁ .And es c mu₂) (hf : b = false → mu₂ = mu₁ ∧ c = false) : CondA G n env mu .And (e :: es) c mu₂:=fun K nu A s hA hs =>
 wpAny_allTrue_And_cons (h.use hA hs fun K1 s1 h1 o1=>by
  cases b with
  | true=>exact (hr rfl).use hA o1 fun K2 s2 h2 o2=>⟨K2,mu₂,h1.trans h2,o2,rfl,rfl⟩
  | false=>obtain ⟨rfl,rfl⟩:=hf rfl; exact ⟨K1,mu₂,h1,o1,rfl,rfl⟩)
theorem CondA.or {b c : Bool} (h : Cond G n env mu e b mu₁) (hr : b = false → CondA G n env mu₁ .Or es c mu₂) (hf : b = true → mu₂ = mu₁ ∧ c = true) : CondA G n env mu .Or (e :: es) c mu₂:=fun K nu A s hA hs =>
 wpAny_allTrue_Or_cons (h.use hA hs fun K1 s1 h1 o1=>by
  cases b with
  | false=>exact (hr rfl).use hA o1 fun K2 s2 h2 o2=>⟨K2,mu₂,h1.trans h2,o2,rfl,rfl⟩
  | true=>obtain ⟨rfl,rfl⟩:=hf rfl; exact ⟨K1,mu₂,h1,o1,rfl,rfl⟩)
theorem CondA.andP {b c : Bool} (h : Cond G n env mu e b mu) (hr : b = true → CondA G n env mu .And es c mu) : CondA G n env mu .And (e :: es) (b && c) mu:=by
 cases b with
 | true=>exact CondA.and h hr (fun h=>nomatch h)
 | false=>exact CondA.and h (fun h=>nomatch h) fun _=>⟨rfl,rfl⟩
theorem CondA.orP {b c : Bool} (h : Cond G n env mu e b mu) (hr : b = false → CondA G n env mu .Or es c mu) : CondA G n env mu .Or (e :: es) (b || c) mu:=by
 cases b with
 | false=>exact CondA.or h hr (fun h=>nomatch h)
 | true=>exact CondA.or h (fun h=>nomatch h) fun _=>⟨rfl,rfl⟩
theorem Cond.ifExp {t a b : Expr} {c : Bool} (h : Cond G n env mu t c mu₁) (ha : c = true → Ev G n env mu₁ a T x mu₂) (hb : c = false → Ev G n env mu₁ b T x mu₂) : Ev G n env mu (.IfExp t a b pos) T x mu₂:=fun K nu A s hA hs =>
 wpAny_IfExp (h.use hA hs fun K1 s1 h1 o1=>by
  cases c with
  | true=>exact (ha rfl).use hA o1 fun K2 v s2 h2 o2 r2=>done (h1.trans h2) o2 r2
  | false=>exact (hb rfl).use hA o1 fun K2 v s2 h2 o2 r2=>done (h1.trans h2) o2 r2)
theorem Ev.and2 {a b : Expr} {i j : Bool} (h : Ev G n env mu a tBool i mu₁) (hb : i = true → Ev G n env mu₁ b tBool j mu₂) (hf : i = false → mu₂ = mu₁ ∧ j = false) : Ev G n env mu (.BoolOp .And [a,b] pos) tBool j mu₂:=fun K nu A s hA hs =>
 wpAny_And2 (h.use hA hs fun K1 v s1 h1 o1 r1=>by
  have r1 : v = .bool i:=r1
  subst r1
  refine wpAny_truthy_bool ?_
  cases i with
  | true=>exact (hb rfl).use hA o1 fun K2 v s2 h2 o2 r2=>done (h1.trans h2) o2 r2
  | false=>obtain ⟨rfl,rfl⟩:=hf rfl; exact done h1 o1 rfl)
theorem Ev.or2S {a b : Expr} {i j : Str} (h : Ev G n env mu a tStr i mu₁) (hb : Ev G n env mu₁ b tStr j mu₁) (hz : i.length ≤ sizeLine) : Ev G n env mu (.BoolOp .Or [a,b] pos) tStr (if i.length = 0 then j else i) mu₁:=fun K nu A s hA hs =>
 wpAny_Or2 (h.use hA hs fun K1 v s1 h1 o1 r1=>Tri.use (tru_str hz n K1 mu₁ v r1) hA o1 fun K2 mu2 b' s2 h2 o2 ⟨e1,e2⟩=>by
  subst e1 e2
  by_cases hi : i.length = 0
  ·simp only [hi,bne_self_eq_false,Bool.false_eq_true,if_false,if_true]
   exact hb.use hA o2 fun K3 v s3 h3 o3 r3=>done (h1.trans (h2.trans h3)) o3 r3
  ·have : (i.length != 0) = true:=by simpa using hi
   simp only [this,if_true,hi,if_false]
   exact done (h1.trans h2) o2 (tStr.mono h2 r1))
theorem EvA.nil : EvA G n env mu pos [] [] mu:=fun K=>Tri.pure ⟨rfl,trivial⟩
theorem spliced_cons' {t : Sem Value} {rest : List (Bool × Sem Value)} {Q : KH → List Res → List Value → Prop} (h : Tri G n K mu t fun K' mu' v=>Tri G n K' mu' (spliced rest) fun K'' mu'' vs=>Q K'' mu'' (v :: vs)) : Tri G n K mu (spliced ((false,t) :: rest)) Q:=fun nu A s hA hs =>
 Calls.spliced_cons (Tri.use h hA hs fun K1 mu1 v s1 h1 o1 r1=>Tri.use r1 hA o1 fun K2 mu2 vs s2 h2 o2 r2=>⟨K2,mu2,h1.trans h2,o2,r2⟩)
theorem EvA.cons (h : Ev G n env mu e T x mu₁) (ht : EvA G n env mu₁ pos es ts mu₂) (hst : starEach (e :: es) env = (false,eval e env) :: starEach es env:=by rfl) : EvA G n env mu pos (e :: es) (⟨T,x⟩ :: ts) mu₂:=fun K=>by
 have : backTo pos (starEach (e :: es) env) = (false,eval e env) :: backTo pos (starEach es env):=by rw [hst]; rfl
 rw [this]
 refine spliced_cons' ((h K).mono fun K1 mu1 v _ ⟨e1,r1⟩=>?_)
 subst e1
 exact fun nu A s hA hs=>Tri.use (ht K1) hA hs fun K2 mu2 vs s2 h2 o2 ⟨e2,r2⟩=>by subst e2; exact ⟨K2,_,h2,o2,rfl,T.mono h2 r1,r2⟩
theorem EvEs.nil : EvEs G n env mu pos [] T [] mu:=fun K=>Tri.pure ⟨rfl,trivial⟩
theorem EvEs.cons (h : Ev G n env mu e T x mu₁) (ht : EvEs G n env mu₁ pos es T xs mu₂) (hst : starEach (e :: es) env = (false,eval e env) :: starEach es env:=by rfl) : EvEs G n env mu pos (e :: es) T (x :: xs) mu₂:=fun K=>by
 have : backTo pos (starEach (e :: es) env) = (false,eval e env) :: backTo pos (starEach es env):=by rw [hst]; rfl
 rw [this]
 refine spliced_cons' ((h K).mono fun K1 mu1 v _ ⟨e1,r1⟩=>?_)
 subst e1
 exact fun nu A s hA hs=>Tri.use (ht K1) hA hs fun K2 mu2 vs s2 h2 o2 ⟨e2,r2⟩=>by subst e2; exact ⟨K2,_,h2,o2,rfl,T.mono h2 r1,r2⟩
theorem Ev.listD (h : EvEs G n env mu pos es T xs mu₁) (hz : xs.length ≤ sizeLine) : Ev G n env mu (.List es pos) (tList T) xs mu₁:=fun K nu A s hA hs =>
 wpAny_List_spliced (Tri.use (h K) hA hs fun K1 mu1 vs s1 h1 o1 ⟨e1,r1⟩=>by subst e1; exact ⟨by rw [r1.length]; exact hz,done_list h1 o1 r1⟩)
theorem Ev.pair {k : Nat} {a b : Expr} (h : Ev G n env mu a T x mu₁) (h' : Ev G n env mu₁ b U y mu₂) (hst : starEach [a,b] env = [(false,eval a env),(false,eval b env)]:=by rfl) : Ev G n env mu (.Tuple [a,b] k pos) (tPair T U) (x,y) mu₂:=fun K nu A s hA hs=>by
 refine wpAny_Tuple_spliced ?_
 have : backTo pos (starEach [a,b] env) = [(false,eval a env),(false,eval b env)]:=by rw [hst]; rfl
 rw [this]
 refine Calls.spliced_cons (h.use hA hs fun K1 v s1 h1 o1 r1=>Calls.spliced_cons (h'.use hA o1 fun K2 w s2 h2 o2 r2=>Calls.spliced_nil ⟨by show _ ≤ 2 ^ 24; simp,?_⟩))
 exact done_pair (h1.trans h2) o2 (T.mono h2 r1) r2
theorem Ev.trip {k : Nat} {a b c : Expr} (h : Ev G n env mu a T x mu₁) (h' : Ev G n env mu₁ b U y mu₂) (h'' : Ev G n env mu₂ c V z mu₃) (hst : starEach [a,b,c] env = [(false,eval a env),(false,eval b env),(false,eval c env)]:=by rfl) : Ev G n env mu (.Tuple [a,b,c] k pos) (tTrip T U V) (x,y,z) mu₃:=fun K nu A s hA hs=>by
 refine wpAny_Tuple_spliced ?_
 have : backTo pos (starEach [a,b,c] env) = [(false,eval a env),(false,eval b env),(false,eval c env)]:=by rw [hst]; rfl
 rw [this]
 refine Calls.spliced_cons (h.use hA hs fun K1 v s1 h1 o1 r1=>Calls.spliced_cons (h'.use hA o1 fun K2 w s2 h2 o2 r2=>Calls.spliced_cons (h''.use hA o2 fun K3 q s3 h3 o3 r3=>Calls.spliced_nil ⟨by show _ ≤ 2 ^ 24; simp,?_⟩)))
 exact done_trip (h1.trans (h2.trans h3)) o3 (T.mono (h2.trans h3) r1) (U.mono h3 r2) r3
theorem EvA.args {f : Value} (h : EvA G n env mu pos (e :: es) ts mu₁) (hst : starEach (e :: es) env = (false,eval e env) :: starEach es env:=by rfl) : ∀ K,Tri G n K mu (evalArgs f true (backTo pos (starEach (e :: es) env)) []) fun K' mu'' a=>mu'' = mu₁ ∧ ∃ vs,a = ⟨vs,[]⟩ ∧ ARel K' vs ts:=fun K nu A s hA hs=>by
 have e1 : backTo pos (starEach (e :: es) env) = (false,eval e env) :: backTo pos (starEach es env):=by rw [hst]; rfl
 rw [e1]
 refine Calls.evalArgs_plain ?_
 rw [← e1]
 exact Tri.use (h K) hA hs fun K1 mu1 vs s1 h1 o1 ⟨e1,r1⟩=>by subst e1; exact ⟨K1,mu1,h1,o1,rfl,vs,rfl,r1⟩
theorem Ev.callB {f : Expr} {id : String} (hf : Ev G n env mu f tVal (.builtin id) mu₁) (ha : EvA G n env mu₁ pos (e :: es) ts mu₂) (hc : Cal G n (.builtin id) ts mu₂ T x mu₃)
  (hp : (backTo pos (starEach (e :: es) env)).any (·.1) = false:=by rfl) (hst : starEach (e :: es) env = (false,eval e env) :: starEach es env:=by rfl)
  (hn : eval (.Call f (e :: es) [] pos) env = (do callWith pos (← eval f env) [] (backTo pos (starEach (e :: es) env)) (backToKw pos (keywordEach [] env))):=by rfl) : Ev G n env mu (.Call f (e :: es) [] pos) T x mu₃:=fun K nu A s hA hs=>by
 rw [hn]
 refine wpAny_bind (hf.use hA hs fun K1 v s1 h1 o1 r1=>?_)
 have r1 : v = .builtin id:=r1
 subst r1
 refine Calls.callWith_builtin hp (Tri.use (ha.args hst K1) hA o1 fun K2 mu2 a s2 h2 o2 ⟨e2,vs,e3,r2⟩=>?_)
 subst e2 e3
 exact Vl.use (hc K2 vs r2) hA o2 fun K3 v s3 h3 o3 r3=>done (h1.trans (h2.trans h3)) o3 r3
theorem Ev.callF {f : Expr} {a : Addr} {o : Obj} {fd : FuncData} (hf : Ev G n env mu f tVal (.ref a) mu₁) (ha : EvA G n env mu₁ pos (e :: es) ts mu₂) (ho : (a ≠ G.TB ∧ a ≠ cStatics) ∧ G.H.get? a = some o ∧ o.data = .func fd) (hc : Cal G n (.ref a) ts mu₂ T x mu₃)
  (hst : starEach (e :: es) env = (false,eval e env) :: starEach es env:=by rfl)
  (hn : eval (.Call f (e :: es) [] pos) env = (do callWith pos (← eval f env) [] (backTo pos (starEach (e :: es) env)) (backToKw pos (keywordEach [] env))):=by rfl) : Ev G n env mu (.Call f (e :: es) [] pos) T x mu₃:=fun K nu A s hA hs=>by
 rw [hn]
 refine wpAny_bind (hf.use hA hs fun K1 v s1 h1 o1 r1=>?_)
 have r1 : v = .ref a:=r1
 subst r1
 refine Calls.callWith_function (o:=o) (fd:=fd) (Tri.use (ha.args hst K1) hA o1 fun K2 mu2 a' s2 h2 o2 ⟨e2,vs,e3,r2⟩=>?_)
 subst e2 e3
 exact ⟨⟨o2.k _ _ (o2.old _ _ ho.1.1 ho.1.2 ho.2.1),ho.2.2⟩,Vl.use (hc K2 vs r2) hA o2 fun K3 v s3 h3 o3 r3=>done (h1.trans (h2.trans h3)) o3 r3⟩
end
noncomputable def rC (c : Addr) : Option TV → Res
 | some tv=>rCell c tv.T tv.x
 | none=>rCell0 c
noncomputable def VS (L : Addr) (ln : List Str) (rho : List (Option TV)) (ca : List Addr) (ka : List (Option TV)) : List Res:=rFrame L ln rho :: List.zipWith rC ca ka
structure FEnv (env : Env) (ln cn : List Str) (ca : List Addr) (gn : List Str) : Prop where
 kind : env.scope.kind = .function
 glob : env.globals = mainGlobals
 blt : env.builtins = builtinsNs
 loc : ∀ nm ∈ ln,env.kindOf nm = some .local
 cel : ∀ nm ∈ cn,env.kindOf nm = some .cell
 cells : ∀ (i : Nat) (nm : Str) (c : Addr),cn[i]? = some nm → ca[i]? = some c → env.cells.lookup nm = some c
 gl : ∀ nm ∈ gn,env.kindOf nm = some .globalImplicit
 lnd : ln.Nodup
 good : ∀ nm ∈ ln ++ (cn ++ gn),(nm == ("__debug__" : Str)) = false ∧ (nm == ("__classdict__" : Str)) = false
noncomputable def VarIn (env : Env) (mu : List Res) (nm : Str) {α : Type} (T : Ty α) (x : α) : Prop :=
 (env.scope.kind = .function ∧ (nm == ("__debug__" : Str)) = false ∧ (nm == ("__classdict__" : Str)) = false) ∧
 ((env.kindOf nm = some .local ∧ ∃ ln rho,∃ i : Nat,rFrame env.locals ln rho ∈ mu ∧ ln[i]? = some nm ∧ rho[i]? = some (some ⟨T,x⟩)) ∨
 ((env.kindOf nm = some .cell ∨ env.kindOf nm = some .free) ∧ ∃ c,env.cells.lookup nm = some c ∧ rCell c T x ∈ mu))
section
variable {G : Gl} {n : Nat} {env : Env} {mu mu₁ mu₂ mu₃ nu rest : List Res} {K : KH} {A : Around} {s : Shared} {E : Value → Shared → Prop} {α β γ : Type} {T : Ty α} {x : α} {U : Ty β} {y : β} {V : Ty γ} {z : γ} {e l r : Expr} {pos p : Pos} {xs ys : List α} {es : List Expr} {ts : List TV}
 {ln cn gn : List Str} {rho ka : List (Option TV)} {ca : List Addr} {id : Str}
theorem Ev.var (h : VarIn env mu id T x) : Ev G n env mu (.Name id pos) T x mu:=fun K nu A s _ hs=>by
 obtain ⟨⟨hk,hd,hd'⟩,h⟩:=h
 rcases h with ⟨hl,ln,rho,i,hm,h1,h2⟩ | ⟨hl,c,hc,hm⟩
 ·obtain ⟨o,e,m,hn,hf⟩:=hs.get (List.mem_append_left nu hm)
  obtain ⟨v,hv,hr⟩:=hf i id _ h1 h2
  exact wpAny_Name (wpAny_loadName_local hk hl (ns_of e hn) hv (done (.refl K) hs hr)) hd
 ·obtain ⟨o,e,v,hv,hr⟩:=hs.get (List.mem_append_left nu hm)
  rcases hl with hl | hl
  ·exact wpAny_Name (wpAny_loadName_cell hk hl hc ⟨o,e,hv⟩ (done (.refl K) hs hr)) hd
  ·exact wpAny_Name (wpAny_loadName_free hk hl hc ⟨o,e,hv⟩ (done (.refl K) hs hr) hd') hd
theorem FEnv.var (F : FEnv env ln cn ca gn) {i : Nat} (h1 : ln[i]? = some id) (h2 : rho[i]? = some (some ⟨T,x⟩)) : VarIn env (VS env.locals ln rho ca ka ++ rest) id T x :=
 have hm:=List.mem_of_getElem? h1
 ⟨⟨F.kind,F.good id (List.mem_append_left _ hm)⟩,.inl ⟨F.loc id hm,ln,rho,i,List.mem_cons_self,h1,h2⟩⟩
theorem zip_mem : ∀ {ca : List Addr} {ka : List (Option TV)} {i : Nat} {c : Addr} {tv : Option TV},ca[i]? = some c → ka[i]? = some tv → rC c tv ∈ List.zipWith rC ca ka
 | [],_,_,_,_,h,_=>by simp at h
 | _ :: _,[],_,_,_,_,h=>by simp at h
 | c :: ca,k :: ka,0,_,_,h,h'=>by simp only [List.getElem?_cons_zero,Option.some.injEq] at h h'; subst h h'; exact List.mem_cons_self
 | c :: ca,k :: ka,i + 1,_,_,h,h'=>by rw [List.getElem?_cons_succ] at h h'; exact List.mem_cons_of_mem _ (zip_mem h h')
noncomputable def As (G : Gl) (n : Nat) (env : Env) (mu : List Res) (t : Expr) {α : Type} (T : Ty α) (x : α) (mu' : List Res) : Prop :=
 ∀ K v,T.rel K v x → Tri G n K mu (assign t env v) fun _ mu'' _=>mu'' = mu'
theorem As.use {t : Expr} {v : Value} {Q : Unit → Shared → Prop} (h : As G n env mu t T x mu₁) (hr : T.rel K v x) (hA : Room n A) (hs : Own G K (mu ++ nu) s) (hq : ∀ K' s',KLe K K' → Own G K' (mu₁ ++ nu) s' → Q () s') : wpAny G.M A (assign t env v) Q E s :=
 Tri.use (h K v hr) hA hs fun K' mu' u s' hle ho e=>by subst e; exact hq K' s' hle ho
theorem nodup_get {l : List Str} (h : l.Nodup) {i j : Nat} {x : Str} (hi : l[i]? = some x) (hj : l[j]? = some x) : i = j:=by
 obtain ⟨h1,e1⟩:=List.getElem?_eq_some_iff.mp hi
 obtain ⟨h2,e2⟩:=List.getElem?_eq_some_iff.mp hj
 exact (List.getElem_inj h).mp (e1.trans e2.symm)
theorem store_locT (F : FEnv env ln cn ca gn) {i : Nat} {v : Value} {Q : Unit → Shared → Prop} (h1 : ln[i]? = some id) (hi : i < rho.length) (hr : T.rel K v x) (hs : Own G K (VS env.locals ln rho ca ka ++ rest ++ nu) s)
  (hq : ∀ s',Own G K (VS env.locals ln (rho.set i (some ⟨T,x⟩)) ca ka ++ rest ++ nu) s' → s.toks < s'.toks → Q () s') : wpAny G.M A (storeName env id v) Q E s:=by
 have hm:=List.mem_of_getElem? h1
 obtain ⟨o,e,m,hn,hf⟩:=hs.get (r:=rFrame env.locals ln rho) (List.mem_append_left _ (List.mem_append_left _ List.mem_cons_self))
 refine wpAny_storeName_local (F.loc id hm) (ns_of e hn) (fun h' hn' hs'=>hq _ ?_ (Nat.lt_succ_self _)) (by rw [F.kind]; rfl)
 obtain ⟨o',e',n'⟩:=of_ns hn'
 refine Own.change (r:=rFrame env.locals ln rho) (r':=rFrame env.locals ln (rho.set i (some ⟨T,x⟩))) (mu:=List.zipWith rC ca ka ++ rest ++ nu) (by simpa [VS] using hs) rfl hs' e' ⟨_,n',fun j nm tv hj ht=>?_⟩
 by_cases hij : nm = id
 ·subst hij
  have : j = i:=nodup_get F.lnd hj h1
  subst this
  rw [List.getElem?_set_self hi] at ht
  cases ht
  exact ⟨v,if_pos rfl,hr⟩
 ·have hne : i ≠ j:=fun e=>hij (by subst e; rw [h1] at hj; exact (Option.some.inj hj).symm)
  rw [List.getElem?_set_ne hne] at ht
  obtain ⟨w,a,b⟩:=hf j nm tv hj ht
  exact ⟨w,by rw [if_neg hij]; exact a,b⟩
theorem store_loc (F : FEnv env ln cn ca gn) {i : Nat} {v : Value} {Q : Unit → Shared → Prop} (h1 : ln[i]? = some id) (hi : i < rho.length) (hr : T.rel K v x) (hs : Own G K (VS env.locals ln rho ca ka ++ rest ++ nu) s)
  (hq : ∀ s',Own G K (VS env.locals ln (rho.set i (some ⟨T,x⟩)) ca ka ++ rest ++ nu) s' → Q () s') : wpAny G.M A (storeName env id v) Q E s:=store_locT F h1 hi hr hs fun s' a _=>hq s' a
theorem As.loc (F : FEnv env ln cn ca gn) {i : Nat} (h1 : ln[i]? = some id) (hi : i < rho.length:=by decide) : As G n env (VS env.locals ln rho ca ka ++ rest) (.Name id pos) T x (VS env.locals ln (rho.set i (some ⟨T,x⟩)) ca ka ++ rest):=fun K v hr nu A s hA hs =>
 wpAny_assign_Name (store_loc F h1 hi hr hs fun s' hs'=>⟨K,_,.refl K,hs',rfl⟩)
theorem zipWith_set {ca : List Addr} {ka : List (Option TV)} {i : Nat} {c : Addr} {tv : Option TV} : ca[i]? = some c → List.zipWith rC ca (ka.set i tv) = (List.zipWith rC ca ka).set i (rC c tv):=by
 induction ca generalizing ka i with
 | nil=>intro h; simp at h
 | cons d ca ih =>
  intro h
  cases ka with
  | nil=>simp
  | cons k ka =>
   cases i with
   | zero=>simp only [List.getElem?_cons_zero,Option.some.injEq] at h; subst h; rfl
   | succ i=>rw [List.getElem?_cons_succ] at h; simp only [List.set_cons_succ,List.zipWith_cons_cons]; rw [ih h]
theorem zipWith_get {ca : List Addr} {ka : List (Option TV)} {i : Nat} {c : Addr} {tv : Option TV} (h : ca[i]? = some c) (h' : ka[i]? = some tv) : (List.zipWith rC ca ka)[i]? = some (rC c tv):=by
 rw [List.getElem?_zipWith,h,h']
theorem rC_cell {c : Addr} {tv : Option TV} {o : Obj} (h : (rC c tv).P K o) : ∃ v,o.data = .cell v:=by
 cases tv with
 | none=>exact h
 | some tv=>obtain ⟨v,a,_⟩:=h; exact ⟨_,a⟩
theorem rC_a (c : Addr) (tv : Option TV) : (rC c tv).a = c:=by cases tv <;> rfl
theorem store_cel (F : FEnv env ln cn ca gn) {i : Nat} {c : Addr} {v : Value} {Q : Unit → Shared → Prop} (h1 : cn[i]? = some id) (h2 : ca[i]? = some c) (hi : i < ka.length) (hr : T.rel K v x) (hs : Own G K (VS env.locals ln rho ca ka ++ rest ++ nu) s)
  (hq : ∀ s',Own G K (VS env.locals ln rho ca (ka.set i (some ⟨T,x⟩)) ++ rest ++ nu) s' → Q () s') : wpAny G.M A (storeName env id v) Q E s:=by
 have hm:=List.mem_of_getElem? h1
 have hk : ka[i]? = some ka[i]:=List.getElem?_eq_getElem hi
 have hz : (VS env.locals ln rho ca ka)[i + 1]? = some (rC c ka[i]):=by
  unfold VS; rw [List.getElem?_cons_succ]; exact zipWith_get h2 hk
 have hz' : (VS env.locals ln rho ca ka ++ rest)[i + 1]? = some (rC c ka[i]):=by
  rw [List.getElem?_append_left]; exact hz
  exact (List.getElem?_eq_some_iff.mp hz).1
 obtain ⟨o,e,hp⟩:=hs.get (r:=rC c ka[i]) (List.mem_append_left _ (List.mem_of_getElem? hz'))
 rw [rC_a] at e
 obtain ⟨v0,hv0⟩:=rC_cell hp
 refine wpAny_storeName_cell F.kind (F.cel id hm) (F.cells i id c h1 h2) ⟨o,e,hv0⟩ fun h' hc' hs'=>hq _ ?_
 obtain ⟨o',e',d'⟩:=hc'
 have key:=Own.changeAt (r':=rC c (some ⟨T,x⟩)) (t:=s.toks) hs hz' (by rw [rC_a,rC_a]) (by rw [rC_a]; exact hs') (by rw [rC_a]; exact e') ⟨v,d',hr⟩
 have e3 : (VS env.locals ln rho ca ka ++ rest).set (i + 1) (rC c (some ⟨T,x⟩)) = VS env.locals ln rho ca (ka.set i (some ⟨T,x⟩)) ++ rest:=by
  rw [List.set_append_left _ _ ((List.getElem?_eq_some_iff.mp hz).1)]
  unfold VS
  rw [List.set_cons_succ,← zipWith_set h2]
 rw [e3] at key
 exact key
theorem As.cel (F : FEnv env ln cn ca gn) {i : Nat} {c : Addr} (h1 : cn[i]? = some id) (h2 : ca[i]? = some c) (hi : i < ka.length:=by decide) : As G n env (VS env.locals ln rho ca ka ++ rest) (.Name id pos) T x (VS env.locals ln rho ca (ka.set i (some ⟨T,x⟩)) ++ rest):=fun K v hr nu A s hA hs =>
 wpAny_assign_Name (store_cel F h1 h2 hi hr hs fun s' hs'=>⟨K,_,.refl K,hs',rfl⟩)
theorem As.pair {k : Nat} {a b : Expr} {q : α × β} (ha : As G n env mu a T q.1 mu₁) (hb : As G n env mu₁ b U q.2 mu₂) (hst : assignEach [a,b] env = [(false,assign a env),(false,assign b env)]:=by rfl) : As G n env mu (.Tuple [a,b] k pos) (tPair T U) q mu₂:=fun K v hr nu A s hA hs=>by
 obtain ⟨t,v1,v2,m,rfl,hk,h1,h2⟩:=hr
 refine wpAny_assign_Tuple hA.1 (isTuple_of (hs.k _ _ hk)) (by rw [hst]; rfl) (by rw [hst]; rfl) fun h' hx=>?_
 have o1 : Own G K (mu ++ nu) { s with heap:=h' }:=hs.grow (s':={ s with heap:=h' }) (fun b o e=>hx b o (Nat.ne_of_lt (Heap.lt_size e)) e) rfl rfl
 rw [hst]
 show wpAny _ A (assignInOrder [assign a env,assign b env] [v1,v2]) _ _ _
 refine wpAny_assignInOrder_more (ha.use h1 hA o1 fun K1 s1 q1 o2=>?_)
 refine wpAny_assignInOrder_more (hb.use (U.mono q1 h2) hA o2 fun K2 s2 q2 o3=>wpAny_assignInOrder_none ?_)
 exact ⟨K2,_,q1.trans q2,o3,rfl⟩
theorem As.trip {k : Nat} {a b c : Expr} {q : α × β × γ} (ha : As G n env mu a T q.1 mu₁) (hb : As G n env mu₁ b U q.2.1 mu₂) (hc : As G n env mu₂ c V q.2.2 mu₃) (hst : assignEach [a,b,c] env = [(false,assign a env),(false,assign b env),(false,assign c env)]:=by rfl) : As G n env mu (.Tuple [a,b,c] k pos) (tTrip T U V) q mu₃:=fun K v hr nu A s hA hs=>by
 obtain ⟨t,v1,v2,v3,m,rfl,hk,h1,h2,h3⟩:=hr
 refine wpAny_assign_Tuple hA.1 (isTuple_of (hs.k _ _ hk)) (by rw [hst]; rfl) (by rw [hst]; rfl) fun h' hx=>?_
 have o1 : Own G K (mu ++ nu) { s with heap:=h' }:=hs.grow (s':={ s with heap:=h' }) (fun b o e=>hx b o (Nat.ne_of_lt (Heap.lt_size e)) e) rfl rfl
 rw [hst]
 show wpAny _ A (assignInOrder [assign a env,assign b env,assign c env] [v1,v2,v3]) _ _ _
 refine wpAny_assignInOrder_more (ha.use h1 hA o1 fun K1 s1 q1 o2=>?_)
 refine wpAny_assignInOrder_more (hb.use (U.mono q1 h2) hA o2 fun K2 s2 q2 o3=>?_)
 refine wpAny_assignInOrder_more (hc.use (V.mono (q1.trans q2) h3) hA o3 fun K3 s3 q3 o4=>wpAny_assignInOrder_none ?_)
 exact ⟨K3,_,q1.trans (q2.trans q3),o4,rfl⟩
end
section
variable {G : Gl} {n : Nat} {env : Env} {mu mu₁ mu₂ mu₃ nu rest : List Res} {K : KH} {A : Around} {s : Shared} {E : Value → Shared → Prop} {α β γ : Type} {T : Ty α} {x : α} {U : Ty β} {y : β} {V : Ty γ} {z : γ} {e l r : Expr} {pos p : Pos} {xs ys : List α} {es : List Expr} {ts : List TV}
 {ln cn gn : List Str} {rho ka : List (Option TV)} {ca : List Addr} {id : Str} {st : Stmt} {ss : List Stmt} {F F' : Flow → KH → List Res → Prop}
theorem Ex.nil (h : ∀ K,F .next K mu) : Ex G n env mu [] F:=fun K nu A s hA hs=>wpAny_execs_nil ⟨K,mu,.refl K,hs,h K⟩
theorem Ex.cons (h : ExS G n env mu st F') (h' : ∀ f K mu',F' f K mu' → match f with | .next=>Tri G n K mu' (execs ss env) (fun K' mu'' f'=>F f' K' mu'') | f=>F f K mu') : Ex G n env mu (st :: ss) F:=fun K nu A s hA hs =>
 wpAny_execs_cons (h.use hA hs fun K1 mu1 f s1 h1 o1 r1=>by
  have q:=h' f K1 mu1 r1
  cases f with
  | next=>exact Tri.use q hA o1 fun K2 mu2 f s2 h2 o2 r2=>⟨K2,mu2,h1.trans h2,o2,r2⟩
  | brk=>exact ⟨K1,mu1,h1,o1,q⟩
  | cont=>exact ⟨K1,mu1,h1,o1,q⟩
  | ret v=>exact ⟨K1,mu1,h1,o1,q⟩)
theorem Ex.next (h : ExS G n env mu st (fNext mu₁)) (h' : Ex G n env mu₁ ss F) : Ex G n env mu (st :: ss) F:=Ex.cons h fun f K mu' ⟨e1,e2⟩=>by subst e1 e2; exact h' K
theorem Ex.mono (h : Ex G n env mu ss F') (hf : ∀ f K mu',F' f K mu' → F f K mu') : Ex G n env mu ss F:=fun K=>(h K).mono fun K' mu' f _ q=>hf f K' mu' q
theorem ExS.mono (h : ExS G n env mu st F') (hf : ∀ f K mu',F' f K mu' → F f K mu') : ExS G n env mu st F:=fun K=>(h K).mono fun K' mu' f _ q=>hf f K' mu' q
theorem Ex.one (h : ExS G n env mu st F) : Ex G n env mu [st] F:=Ex.cons h fun f K mu' q=>by
 cases f with
 | next=>exact fun nu A s hA hs=>wpAny_execs_nil ⟨K,mu',.refl K,hs,q⟩
 | brk=>exact q
 | cont=>exact q
 | ret v=>exact q
theorem Ex.last (h : ExS G n env mu st F) (hn : ∀ K mu',¬ F .next K mu') : Ex G n env mu (st :: ss) F:=Ex.cons h fun f K mu' q=>by
 cases f with
 | next=>exact absurd q (hn K mu')
 | brk=>exact q
 | cont=>exact q
 | ret v=>exact q
theorem ExS.assign {t : Expr} (h : Ev G n env mu e T x mu₁) (ha : As G n env mu₁ t T x mu₂) (hst : assignEach [t] env = [(false,PySem.assign t env)]:=by rfl)
  (hs : swapsWith e (some t) pos.line env = pure false:=by rfl) (hw : swappedStores [t] e env = pure none:=by rfl) : ExS G n env mu (.Assign [t] e pos) (fNext mu₂):=fun K nu A s hA hs' =>
 wpAny_Assign_stores (h.use hA hs' fun K1 v s1 h1 o1 r1=>by
  rw [hst]
  show wpAny _ A (PySem.assign t env v) _ _ _
  exact ha.use r1 hA o1 fun K2 s2 h2 o2=>⟨K2,_,h1.trans h2,o2,rfl,rfl⟩) hs hw
theorem ExS.ret (h : Ev G n env mu e T x mu₁) : ExS G n env mu (.Return (some e) pos) (fRet T x mu₁):=fun K nu A s hA hs =>
 wpAny_Return_some (h.use hA hs fun K1 v s1 h1 o1 r1=>⟨K1,mu₁,h1,o1,v,rfl,rfl,r1⟩)
theorem ExS.expr (h : Ev G n env mu e T x mu₁) (hv : ∀ K v,T.rel K v x → ∀ a,v ≠ .ref a) (hi : interactive env = false) (hs : swapsWith e none pos.line env = pure false:=by rfl) : ExS G n env mu (.Expr e pos) (fNext mu₁):=fun K nu A s hA hs' =>
 wpAny_Expr (h.use hA hs' fun K1 v s1 h1 o1 r1=>by
  have q:=hv K1 v r1
  cases v with
  | ref a=>exact absurd rfl (q a)
  | _=>exact ⟨K1,mu₁,h1,o1,rfl,rfl⟩) hi hs
theorem FEnv.calm (F : FEnv env ln cn ca gn) : interactive env = false:=by unfold interactive; rw [F.kind]; rfl
theorem noRef_none : ∀ (K : KH) v,tNone.rel K v () → ∀ a,v ≠ .ref a:=fun K v e a h=>by have e : v = .none:=e; subst e; cases h
theorem ExS.if_ {t : Expr} {b : Bool} {body orelse : List Stmt} (h : Cond G n env mu t b mu₁) (ha : b = true → Ex G n env mu₁ body F) (hb : b = false → Ex G n env mu₁ orelse F) : ExS G n env mu (.If t body orelse pos) F:=fun K nu A s hA hs =>
 wpAny_If (h.use hA hs fun K1 s1 h1 o1=>by
  cases b with
  | true=>exact (ha rfl).use hA o1 fun K2 mu2 f s2 h2 o2 r2=>⟨K2,mu2,h1.trans h2,o2,r2⟩
  | false=>exact (hb rfl).use hA o1 fun K2 mu2 f s2 h2 o2 r2=>⟨K2,mu2,h1.trans h2,o2,r2⟩)
theorem ExS.cont : ExS G n env mu (.Continue pos) (fun f _ mu'=>f = .cont ∧ mu' = mu):=fun K nu A s hA hs=>wpAny_Continue ⟨K,mu,.refl K,hs,rfl,rfl⟩
structure ItR (G : Gl) (K : KH) (t : Expr) {α : Type} (T : Ty α) (it : Addr) (xs : List α) (R : Nat → List Res) (last : List Res) : Prop where
 item : ∀ (n : Nat) (K' : KH) (k : Nat) (x : α),KLe K K' → xs[k]? = some x → Tri G n K' (R k) (pyNext (.ref it)) fun K1 mu1 o=>∃ v,o = some v ∧ T.rel K1 v x ∧ Tri G n K1 mu1 (letOwnedTupleGo t (.ref it) v) fun _ mu2 _=>mu2 = R (k + 1)
 stop : ∀ (n : Nat) (K' : KH),KLe K K' → Tri G n K' (R xs.length) (pyNext (.ref it)) fun _ mu1 o=>o = none ∧ mu1 = last
 self : ∀ (n : Nat) (K' : KH) (k : Nat),KLe K K' → k ≤ xs.length → Tri G n K' (R k) (pyIter (.ref it)) fun _ mu1 v=>v = .ref it ∧ mu1 = R k
noncomputable def EvIt (G : Gl) (n : Nat) (env : Env) (mu : List Res) (e : Expr) (t : Expr) {α : Type} (T : Ty α) (xs : List α) (mu' last : List Res) : Prop :=
 ∀ K,Tri G n K mu (eval e env) fun K1 mu1 v=>Tri G n K1 mu1 (pyIter v) fun K2 mu2 w=>∃ it R,w = .ref it ∧ mu2 = R 0 ++ mu' ∧ ItR G K2 t T it xs R last
noncomputable def rIter (it l : Addr) (i : Nat) : Res:=⟨it,fun _ o=>o.cls = .type "list_iterator" ∧ o.data = .fields #[.ref l,.int i 0],fun _ h=>h⟩
theorem go_listiter {it l : Addr} {i : Nat} {t : Expr} {v : Value} {la : List Res} : Tri G n K (rIter it l i :: la) (letOwnedTupleGo t (.ref it) v) fun _ mu1 _=>mu1 = rIter it l i :: la:=fun nu A s hA hs=>by
 obtain ⟨o,e,hc,hd⟩:=hs.get (r:=rIter it l i) List.mem_cons_self
 have fin : ∃ K' mu',KLe K K' ∧ Own G K' (mu' ++ nu) s ∧ mu' = rIter it l i :: la:=⟨K,_,.refl K,hs,rfl⟩
 have e : s.heap.get? it = some o:=e
 have key : wpAny G.M A (do
   let (.ref r,.ref a):=(Value.ref it,v) | return
   let o ← load r
   match o.cls,o.data with
   | .type n,.fields vs =>
    if ["enumerate", "zip", "dict_itemiterator", "dict_reverseitemiterator", "odict_iterator", "itertools.zip_longest", "itertools.pairwise"].contains n && vs[0]? == some (rawInt a) then
     rule "for.unpacks-the-owned-tuple"
     updateField r 0 .none
   | _,_=>pure () : Sem Unit) (fun _ s'=>∃ K' mu',KLe K K' ∧ Own G K' (mu' ++ nu) s' ∧ mu' = rIter it l i :: la) noE s:=by
  cases v with
  | ref a =>
   refine wpAny_bind (wpAny_load e ?_)
   rw [hc,hd]
   exact wpAny_pure fin
  | _=>exact wpAny_pure fin
 cases t with
 | Tuple=>exact key
 | List=>exact key
 | _=>exact wpAny_pure fin
theorem IsListIter.of {h : Heap} {it l : Addr} {i : Nat} {o : Obj} (e : h.get? it = some o) (hp : (rIter it l i).P K o) : h.IsListIter it l i:=⟨o,e,hp.1,hp.2⟩
theorem it_list {t : Expr} {it a : Addr} {vs : List Value} {m : Nat} (hk : K a = some (listO vs m)) (hr : All2 (T.rel K) vs xs) : ItR G K t T it xs (fun k=>[rIter it a k]) [] where
 item:=fun n K' k x hle hx nu A s hA hs=>by
  obtain ⟨o,e,hp⟩:=hs.get (r:=rIter it a k) List.mem_cons_self
  obtain ⟨v,hv,hrv⟩:=hr.get hx
  refine wpAny_pyNext_list_item (IsListIter.of e hp) (isList_of (hs.k _ _ (hle _ _ hk))) (by simpa using hv) fun h' hi hs'=>?_
  obtain ⟨o',e',c',d'⟩:=hi
  exact ⟨K',[rIter it a (k + 1)],.refl _,Own.change (t:=s.toks) (r':=rIter it a (k + 1)) hs rfl hs' e' ⟨c',d'⟩,v,rfl,T.mono hle hrv,go_listiter⟩
 stop:=fun n K' hle nu A s hA hs=>by
  obtain ⟨o,e,hp⟩:=hs.get (r:=rIter it a xs.length) List.mem_cons_self
  refine wpAny_pyNext_list_end hA.1 (IsListIter.of e hp) (isList_of (hs.k _ _ (hle _ _ hk))) (by simp [hr.length]) fun h' hx=>?_
  exact ⟨K',[],.refl _,Own.drop (s':={ s with heap:=h' }) hs hx rfl rfl,rfl,rfl⟩
 self:=fun n K' k hle hkx nu A s hA hs=>by
  obtain ⟨o,e,hp⟩:=hs.get (r:=rIter it a k) List.mem_cons_self
  exact wpAny_pyIter_listiter (IsListIter.of e hp) ⟨K',_,.refl _,hs,rfl,rfl⟩
theorem EvIt.list {t : Expr} (h : Ev G n env mu e (tList T) xs mu₁) : EvIt G n env mu e t T xs mu₁ []:=fun K=>(h K).mono fun K1 mu1 v _ ⟨e1,r1⟩=>by
 subst e1
 obtain ⟨a,vs,m,rfl,hk,hr⟩:=r1
 intro nu A s hA hs
 refine wpAny_pyIter_list (isList_of (hs.k _ _ hk)) ⟨K1,rIter s.heap.objs.size a 0 :: mu1,.refl _,?_,s.heap.objs.size,(fun k=>[rIter s.heap.objs.size a k]),rfl,rfl,it_list hk hr⟩
 exact hs.pushOwned { cls:=.type "list_iterator", data:=.fields #[.ref a,.int 0 0] } (rIter s.heap.objs.size a 0) rfl ⟨rfl,rfl⟩
theorem it_listO {t : Expr} {it a : Addr} : ItR G K t T it xs (fun k=>[rIter it a k,rList a T xs]) [rList a T xs] where
 item:=fun n K' k x hle hx nu A s hA hs=>by
  obtain ⟨o,e,hp⟩:=hs.get (r:=rIter it a k) List.mem_cons_self
  obtain ⟨ol,el,vs,m,rfl,hr⟩:=hs.get (r:=rList a T xs) (List.mem_cons_of_mem _ List.mem_cons_self)
  obtain ⟨v,hv,hrv⟩:=hr.get hx
  refine wpAny_pyNext_list_item (IsListIter.of e hp) (isList_of el) (by simpa using hv) fun h' hi hs'=>?_
  obtain ⟨o',e',c',d'⟩:=hi
  exact ⟨K',[rIter it a (k + 1),rList a T xs],.refl _,Own.change (t:=s.toks) (r':=rIter it a (k + 1)) hs rfl hs' e' ⟨c',d'⟩,v,rfl,hrv,go_listiter⟩
 stop:=fun n K' hle nu A s hA hs=>by
  obtain ⟨o,e,hp⟩:=hs.get (r:=rIter it a xs.length) List.mem_cons_self
  obtain ⟨ol,el,vs,m,rfl,hr⟩:=hs.get (r:=rList a T xs) (List.mem_cons_of_mem _ List.mem_cons_self)
  refine wpAny_pyNext_list_end hA.1 (IsListIter.of e hp) (isList_of el) (by simp [hr.length]) fun h' hx=>?_
  exact ⟨K',[rList a T xs],.refl _,Own.drop (s':={ s with heap:=h' }) hs hx rfl rfl,rfl,rfl⟩
 self:=fun n K' k hle hkx nu A s hA hs=>by
  obtain ⟨o,e,hp⟩:=hs.get (r:=rIter it a k) List.mem_cons_self
  exact wpAny_pyIter_listiter (IsListIter.of e hp) ⟨K',_,.refl _,hs,rfl,rfl⟩
theorem EvIt.listO {t : Expr} {a : Addr} (h : Ev G n env mu e tVal (.ref a) mu₁) (hp : mu₁.Perm (rList a T xs :: mu₂)) : EvIt G n env mu e t T xs mu₂ [rList a T xs]:=fun K=>(h K).mono fun K1 mu1 v _ ⟨e1,r1⟩=>by
 subst e1
 have r1 : v = .ref a:=r1
 subst r1
 intro nu A s hA hs
 have hs:=hs.perm (hp.append_right nu)
 obtain ⟨ol,el,vs,m,rfl,hr⟩:=hs.get (r:=rList a T xs) List.mem_cons_self
 refine wpAny_pyIter_list (isList_of el) ⟨K1,rIter s.heap.objs.size a 0 :: rList a T xs :: mu₂,.refl _,?_,s.heap.objs.size,(fun k=>[rIter s.heap.objs.size a k,rList a T xs]),rfl,rfl,it_listO⟩
 exact hs.pushOwned { cls:=.type "list_iterator", data:=.fields #[.ref a,.int 0 0] } (rIter s.heap.objs.size a 0) rfl ⟨rfl,rfl⟩
noncomputable def Wk (G : Gl) (mu mu' : List Res) : Prop:=∀ K nu s,Own G K (mu ++ nu) s → Own G K (mu' ++ nu) s
theorem Wk.refl : Wk G mu mu:=fun _ _ _ h=>h
theorem Wk.trans (h : Wk G mu mu₁) (h' : Wk G mu₁ mu₂) : Wk G mu mu₂:=fun K nu s x=>h' K nu s (h K nu s x)
theorem Wk.perm (p : mu.Perm mu₁) : Wk G mu mu₁:=fun _ nu _ x=>x.perm (p.append_right nu)
theorem Wk.sub (p : mu₁.Sublist mu) : Wk G mu mu₁:=fun _ nu _ x=>x.sub (p.append (.refl nu))
theorem Wk.append (h : Wk G mu mu₁) (l : List Res) : Wk G (mu ++ l) (mu₁ ++ l):=fun K nu s x=>by
 rw [List.append_assoc] at x ⊢
 exact h K (l ++ nu) s x
noncomputable def Forget : List (Option TV) → List (Option TV) → Prop
 | [],[]=>True
 | r :: rho,r' :: rho'=>(r' = none ∨ r' = r) ∧ Forget rho rho'
 | _,_=>False
theorem Forget.get : ∀ {rho rho' : List (Option TV)},Forget rho rho' → ∀ {i : Nat} {tv : TV},rho'[i]? = some (some tv) → rho[i]? = some (some tv)
 | [],[],_,_,_,h=>by simp at h
 | r :: rho,r' :: rho',⟨a,b⟩,0,tv,h=>by
  simp only [List.getElem?_cons_zero,Option.some.injEq] at h ⊢
  rcases a with a | a
  ·rw [a] at h; cases h
  ·rw [← a]; exact h
 | r :: rho,r' :: rho',⟨_,b⟩,i + 1,tv,h=>by rw [List.getElem?_cons_succ] at h ⊢; exact Forget.get b h
theorem Wk.forget {L : Addr} {rho' : List (Option TV)} (h : Forget rho rho') : Wk G (VS L ln rho ca ka ++ rest) (VS L ln rho' ca ka ++ rest):=fun K nu s x=>by
 refine x.tell rfl fun r hr=>?_
 rcases List.mem_cons.mp hr with rfl | hr
 ·exact ⟨_,List.mem_cons_self,rfl,fun K o ⟨m,hn,hf⟩=>⟨m,hn,fun i nm tv h1 h2=>hf i nm tv h1 (h.get h2)⟩⟩
 ·exact ⟨r,List.mem_cons_of_mem _ hr,rfl,fun _ _ h=>h⟩
theorem Ex.weaken (h : Wk G mu mu₁) (h' : Ex G n env mu₁ ss F) : Ex G n env mu ss F:=fun K nu A s hA hs=>h' K nu A s hA (h K nu s hs)
theorem Tri.weaken {β : Type} {t : Sem β} {Q : KH → List Res → β → Prop} (h : Wk G mu mu₁) (h' : Tri G n K mu₁ t Q) : Tri G n K mu t Q:=fun nu A s hA hs=>h' nu A s hA (h K nu s hs)
end
noncomputable def cellNames (names : List (Str × NameKind)) : List Str:=(names.filter (·.2 == .cell)).map (·.1)
noncomputable def freeNames (names : List (Str × NameKind)) : List Str:=(names.filter (·.2 == .free)).map (·.1)
noncomputable def cscOk (sc : Scope) (ln cn fn gn : List Str) : Bool :=
 (sc.kind == .function) && decide ((sc.names.map (·.1)).Nodup) && ln.all (fun nm=>sc.names.lookup nm == some .local) && decide (cn = cellNames sc.names) && decide (fn = freeNames sc.names) &&
 gn.all (fun nm=>sc.names.lookup nm == some .globalImplicit) && decide ln.Nodup && (ln ++ (cn ++ (fn ++ gn))).all fun nm=>!(nm == ("__debug__" : Str)) && !(nm == ("__classdict__" : Str))
structure CSc (sc : Scope) (ln cn fn gn : List Str) : Prop where
 kind : sc.kind = .function
 nd : (sc.names.map (·.1)).Nodup
 loc : ∀ nm ∈ ln,sc.names.lookup nm = some .local
 cel : cn = cellNames sc.names
 fre : fn = freeNames sc.names
 gl : ∀ nm ∈ gn,sc.names.lookup nm = some .globalImplicit
 lnd : ln.Nodup
 good : ∀ nm ∈ ln ++ (cn ++ (fn ++ gn)),(nm == ("__debug__" : Str)) = false ∧ (nm == ("__classdict__" : Str)) = false
theorem csc_of {sc : Scope} {ln cn fn gn : List Str} (h : cscOk sc ln cn fn gn = true) : CSc sc ln cn fn gn:=by
 unfold cscOk at h
 simp only [Bool.and_eq_true,List.all_eq_true,beq_iff_eq,decide_eq_true_eq,Bool.not_eq_true'] at h
 obtain ⟨⟨⟨⟨⟨⟨⟨a,b⟩,c⟩,d⟩,e⟩,f⟩,g⟩,i⟩:=h
 exact ⟨a,b,c,d,e,f,g,i⟩
theorem lookup_of_mem {names : List (Str × NameKind)} (hn : (names.map (·.1)).Nodup) {x : Str} {k : NameKind} (h : (x,k) ∈ names) : names.lookup x = some k:=by
 induction names with
 | nil=>cases h
 | cons p r ih =>
  obtain ⟨y,q⟩:=p
  rw [List.map_cons,List.nodup_cons] at hn
  rw [List.lookup_cons]
  rcases List.mem_cons.mp h with e | h'
  ·cases e; simp
  ·clear h; have h:=h'; clear h'
   have : (x == y) = false:=by
    apply Bool.eq_false_iff.mpr
    intro hb
    have:=eq_of_beq hb
    subst this
    exact hn.1 (List.mem_map.mpr ⟨_,h,rfl⟩)
   rw [this]
   exact ih hn.2 h
theorem mem_cellNames {names : List (Str × NameKind)} {x : Str} (h : x ∈ cellNames names) : (x,NameKind.cell) ∈ names:=by
 obtain ⟨⟨y,k⟩,hm,e⟩:=List.mem_map.mp h
 obtain ⟨h1,h2⟩:=List.mem_filter.mp hm
 have h2 : k = .cell:=beq_iff_eq.mp h2
 have e : y = x:=e
 subst h2 e; exact h1
theorem mem_freeNames {names : List (Str × NameKind)} {x : Str} : x ∈ freeNames names ↔ (x,NameKind.free) ∈ names:=by
 constructor
 ·intro h
  obtain ⟨⟨y,k⟩,hm,e⟩:=List.mem_map.mp h
  obtain ⟨h1,h2⟩:=List.mem_filter.mp hm
  have h2 : k = .free:=beq_iff_eq.mp h2
  have e : y = x:=e
  subst h2 e; exact h1
 ·intro h
  exact List.mem_map.mpr ⟨(x,.free),List.mem_filter.mpr ⟨h,rfl⟩,rfl⟩
theorem cellsFrom_notin : ∀ (names : List (Str × NameKind)) (n : Nat) (acc : List (Str × Addr)) (x : Str),x ∉ cellNames names → (cellsFrom n names acc).lookup x = acc.lookup x
 | [],_,_,_,_=>rfl
 | (y,k) :: r,n,acc,x,h=>by
  unfold cellsFrom
  cases hk : k == NameKind.cell with
  | true =>
   simp only [if_true]
   have h1 : x ≠ y ∧ x ∉ cellNames r:=by
    unfold cellNames at h
    rw [List.filter_cons_of_pos (by simpa using hk),List.map_cons,List.mem_cons,not_or] at h
    exact h
   rw [cellsFrom_notin r _ _ x h1.2,List.lookup_cons]
   have : (x == y) = false:=by simpa using h1.1
   rw [this]
  | false =>
   simp only [Bool.false_eq_true,if_false]
   refine cellsFrom_notin r _ _ x ?_
   unfold cellNames at h
   rw [List.filter_cons_of_neg (by simpa using hk)] at h
   exact h
theorem cellsFrom_at : ∀ (names : List (Str × NameKind)) (n : Nat) (acc : List (Str × Addr)) (i : Nat) (x : Str),(names.map (·.1)).Nodup → (cellNames names)[i]? = some x → (cellsFrom n names acc).lookup x = some (n + i)
 | [],_,_,_,_,_,h=>by simp [cellNames] at h
 | (y,k) :: r,n,acc,i,x,hn,h=>by
  rw [List.map_cons,List.nodup_cons] at hn
  unfold cellsFrom
  cases hk : k == NameKind.cell with
  | true =>
   simp only [if_true]
   unfold cellNames at h
   rw [List.filter_cons_of_pos (by simpa using hk),List.map_cons] at h
   cases i with
   | zero =>
    simp only [List.getElem?_cons_zero,Option.some.injEq] at h
    subst h
    rw [cellsFrom_notin r _ _ _ fun hm=>hn.1 (List.mem_map.mpr ⟨_,mem_cellNames hm,rfl⟩),List.lookup_cons]
    simp
   | succ i =>
    rw [List.getElem?_cons_succ] at h
    rw [cellsFrom_at r (n + 1) _ i x hn.2 h]
    congr 1; lia
  | false =>
   simp only [Bool.false_eq_true,if_false]
   unfold cellNames at h
   rw [List.filter_cons_of_neg (by simpa using hk)] at h
   exact cellsFrom_at r n acc i x hn.2 h
noncomputable def clOf (env : Env) : List (Str × NameKind) → List (Str × Addr) → List (Str × Addr)
 | [],acc=>acc
 | (y,k) :: r,acc=>if k == .free then clOf env r ((y,(env.cells.lookup y).getD 0) :: acc) else clOf env r acc
theorem clOf_eq {env : Env} (f : Str × NameKind → List (Str × Addr) → Sem (ForInStep (List (Str × Addr)))) (hf : ∀ y k cs,f (y,k) cs = if k == .free then (do let c ← cellOf env y; pure (.yield ((y,c) :: cs))) else pure (.yield cs)) :
  ∀ (names : List (Str × NameKind)) (acc : List (Str × Addr)),(∀ nm ∈ freeNames names,∃ c,env.cells.lookup nm = some c) → forIn names acc f = (pure (clOf env names acc) : Sem _)
 | [],acc,_=>by rw [List.forIn_nil]; rfl
 | (y,k) :: r,acc,h=>by
  rw [List.forIn_cons,hf]
  unfold clOf
  cases hk : k == NameKind.free with
  | true =>
   have hk' : k = .free:=beq_iff_eq.mp hk
   obtain ⟨c,hc⟩:=h y (mem_freeNames.mpr (by rw [hk']; exact List.mem_cons_self))
   simp only [if_true]
   unfold cellOf
   rw [hc]
   simp only [pure_bind]
   refine clOf_eq f hf r _ fun nm hm=>h nm (mem_freeNames.mpr (List.mem_cons_of_mem _ (mem_freeNames.mp hm)))
  | false =>
   simp only [Bool.false_eq_true,if_false,pure_bind]
   exact clOf_eq f hf r _ fun nm hm=>h nm (mem_freeNames.mpr (List.mem_cons_of_mem _ (mem_freeNames.mp hm)))
theorem closure_eq {env : Env} {sc : Scope} (h : ∀ nm ∈ freeNames sc.names,∃ c,env.cells.lookup nm = some c) : closureFor sc env = pure (clOf env sc.names []):=by
 simp only [closureFor]
 rw [clOf_eq (env:=env) _ (fun y k cs=>by cases hk : k == NameKind.free <;> simp [hk]) sc.names [] h]
 rfl
theorem clOf_notin {env : Env} : ∀ (names : List (Str × NameKind)) (acc : List (Str × Addr)) (x : Str),x ∉ freeNames names → (clOf env names acc).lookup x = acc.lookup x
 | [],_,_,_=>rfl
 | (y,k) :: r,acc,x,h=>by
  unfold clOf
  cases hk : k == NameKind.free with
  | true =>
   simp only [if_true]
   have h1 : x ≠ y ∧ x ∉ freeNames r:=by
    unfold freeNames at h
    rw [List.filter_cons_of_pos (by simpa using hk),List.map_cons,List.mem_cons,not_or] at h
    exact h
   rw [clOf_notin r _ x h1.2,List.lookup_cons]
   have : (x == y) = false:=by simpa using h1.1
   rw [this]
  | false =>
   simp only [Bool.false_eq_true,if_false]
   refine clOf_notin r _ x ?_
   unfold freeNames at h
   rw [List.filter_cons_of_neg (by simpa using hk)] at h
   exact h
theorem clOf_at {env : Env} : ∀ (names : List (Str × NameKind)) (acc : List (Str × Addr)) (x : Str),(names.map (·.1)).Nodup → x ∈ freeNames names → (clOf env names acc).lookup x = some ((env.cells.lookup x).getD 0)
 | [],_,_,_,h=>by simp [freeNames] at h
 | (y,k) :: r,acc,x,hn,h=>by
  rw [List.map_cons,List.nodup_cons] at hn
  unfold clOf
  cases hk : k == NameKind.free with
  | true =>
   simp only [if_true]
   unfold freeNames at h
   rw [List.filter_cons_of_pos (by simpa using hk),List.map_cons,List.mem_cons] at h
   rcases h with rfl | h
   ·rw [clOf_notin r _ _ fun hm=>hn.1 (List.mem_map.mpr ⟨_,mem_freeNames.mp hm,rfl⟩),List.lookup_cons]; simp
   ·exact clOf_at r _ x hn.2 h
  | false =>
   simp only [Bool.false_eq_true,if_false]
   unfold freeNames at h
   rw [List.filter_cons_of_neg (by simpa using hk)] at h
   exact clOf_at r _ x hn.2 h
theorem relabel_lookup {env : Env} : ∀ {names : List (Str × NameKind)} {x : Str} {k : NameKind},names.lookup x = some k →
  (names.map fun (n,k)=>if (k == NameKind.free && env.scope.kind == .function && env.kindOf n == some .cell) then (n,NameKind.cell) else (n,k)).lookup x = some k ∨ (k = .free ∧
  (names.map fun (n,k)=>if (k == NameKind.free && env.scope.kind == .function && env.kindOf n == some .cell) then (n,NameKind.cell) else (n,k)).lookup x = some .cell)
 | [],_,_,h=>by simp at h
 | (n,q) :: r,x,k,h=>by
  have ih:=@relabel_lookup env r x k
  show List.lookup x ((if (q == NameKind.free && env.scope.kind == .function && env.kindOf n == some .cell) = true then (n,NameKind.cell) else (n,q)) :: _) = _ ∨ _ ∧ List.lookup x ((if (q == NameKind.free && env.scope.kind == .function && env.kindOf n == some .cell) = true then (n,NameKind.cell) else (n,q)) :: _) = _
  cases hx : x == n with
  | true =>
   simp only [List.lookup_cons,hx] at h
   cases h
   by_cases hc : (q == NameKind.free && env.scope.kind == .function && env.kindOf n == some .cell) = true
   ·rw [if_pos hc]; simp only [List.lookup_cons,hx]
    simp only [Bool.and_eq_true,beq_iff_eq] at hc
    exact .inr ⟨hc.1.1,trivial⟩
   ·rw [if_neg hc]; simp only [List.lookup_cons,hx]; exact .inl trivial
  | false =>
   simp only [List.lookup_cons,hx] at h
   by_cases hc : (q == NameKind.free && env.scope.kind == .function && env.kindOf n == some .cell) = true
   ·rw [if_pos hc]; simp only [List.lookup_cons,hx]; exact ih h
   ·rw [if_neg hc]; simp only [List.lookup_cons,hx]; exact ih h
section
variable {G : Gl} {n : Nat} {env : Env} {mu mu₁ mu₂ mu₃ nu rest : List Res} {K : KH} {A : Around} {s : Shared} {E : Value → Shared → Prop} {α β γ : Type} {T : Ty α} {x : α} {U : Ty β} {y : β} {V : Ty γ} {z : γ} {e l r : Expr} {pos p : Pos} {xs ys : List α} {es : List Expr} {ts : List TV}
 {ln cn fn gn : List Str} {rho ka : List (Option TV)} {ca : List Addr} {id : Str} {st : Stmt} {ss : List Stmt} {F F' : Flow → KH → List Res → Prop} {sc : Scope}
noncomputable def cells0 (a : Nat) (k : Nat) : List Res:=List.zipWith rC (List.range' a k) (List.replicate k none)
theorem own_cells : ∀ (names : List (Str × NameKind)) (s : Shared) (mu : List Res),Own G K mu s → Own G K (cells0 s.heap.objs.size (cellNames names).length ++ mu) { s with heap:=pushCells s.heap names }
 | [],s,mu,h=>h
 | (y,k) :: r,s,mu,h=>by
  unfold pushCells
  cases hk : k == NameKind.cell with
  | true =>
   simp only [if_true]
   have h1:=own_cells r _ _ (h.pushOwned { cls:=.type "cell", data:=.cell none } (rCell0 s.heap.objs.size) rfl ⟨_,rfl⟩)
   have e : (cellNames ((y,k) :: r)).length = (cellNames r).length + 1:=by
    unfold cellNames
    rw [List.filter_cons_of_pos (by simpa using hk)]; rfl
   rw [e]
   have e2 : cells0 s.heap.objs.size ((cellNames r).length + 1) = rCell0 s.heap.objs.size :: cells0 (s.heap.objs.size + 1) (cellNames r).length:=by
    unfold cells0
    rw [List.range'_succ,List.replicate_succ,List.zipWith_cons_cons]; rfl
   rw [e2]
   have e3 : ({ s with heap:=s.heap.push { cls:=.type "cell", data:=.cell none } } : Shared).heap.objs.size = s.heap.objs.size + 1:=Heap.size_push ..
   rw [e3] at h1
   exact h1.perm List.perm_middle
  | false =>
   simp only [Bool.false_eq_true,if_false]
   have e : cellNames ((y,k) :: r) = cellNames r:=by
    unfold cellNames
    rw [List.filter_cons_of_neg (by simpa using hk)]
   rw [e]
   exact own_cells r s mu h
noncomputable def CelIn (env : Env) (mu : List Res) (nm : Str) {α : Type} (T : Ty α) (x : α) : Prop :=
 (env.scope.kind = .function ∧ (nm == ("__debug__" : Str)) = false ∧ (nm == ("__classdict__" : Str)) = false) ∧ (env.kindOf nm = some .cell ∨ env.kindOf nm = some .free) ∧ ∃ c,env.cells.lookup nm = some c ∧ rCell c T x ∈ mu
theorem CelIn.var (h : CelIn env mu id T x) : VarIn env mu id T x:=⟨h.1,.inr h.2⟩
theorem FEnv.celIn (F : FEnv env ln cn ca gn) {i : Nat} {c : Addr} (h1 : cn[i]? = some id) (h2 : ca[i]? = some c) (h3 : ka[i]? = some (some ⟨T,x⟩)) : CelIn env (VS env.locals ln rho ca ka ++ rest) id T x :=
 have hm:=List.mem_of_getElem? h1
 ⟨⟨F.kind,F.good id (List.mem_append_right _ (List.mem_append_left _ hm))⟩,.inl (F.cel id hm),c,F.cells i id c h1 h2,List.mem_append_left _ (List.mem_cons_of_mem _ (zip_mem (tv:=some ⟨T,x⟩) h2 h3))⟩
noncomputable def Sees (env cenv : Env) (fn : List Str) : Prop:=∀ (nm : Str),nm ∈ fn → (∃ c,env.cells.lookup nm = some c ∧ cenv.cells.lookup nm = some c) ∧ (cenv.kindOf nm = some .cell ∨ cenv.kindOf nm = some .free) ∧ cenv.scope.kind = .function ∧ (nm == ("__debug__" : Str)) = false ∧ (nm == ("__classdict__" : Str)) = false
theorem Sees.cel {cenv : Env} (S : Sees env cenv fn) {i : Nat} (hi : fn[i]? = some id) (h : CelIn env mu id T x) (pre : List Res) : CelIn cenv (pre ++ mu) id T x:=by
 obtain ⟨⟨c,h1,h2⟩,hk,hf,hg⟩:=S id (List.mem_of_getElem? hi)
 obtain ⟨_,_,c',hc',hm⟩:=h
 rw [h1] at hc'; cases hc'
 exact ⟨⟨hf,hg⟩,hk,c,h2,List.mem_append_right _ hm⟩
noncomputable def blank (k : Nat) : List (Option TV):=List.replicate k none
theorem VS_blank {L : Addr} (h : Own G K (VS L ln rho ca ka ++ rest) s) (hl : ka.length = ca.length) : Own G K (VS L ln (blank ln.length) ca (blank ca.length) ++ rest) s:=by
 have e : ∀ (ca : List Addr) (ka : List (Option TV)),ka.length = ca.length → (List.zipWith rC ca (blank ca.length)).map (·.a) = (List.zipWith rC ca ka).map (·.a) ∧ ∀ r' ∈ List.zipWith rC ca (blank ca.length),∃ r ∈ List.zipWith rC ca ka,r.a = r'.a ∧ ∀ K o,r.P K o → r'.P K o:=by
  intro ca
  induction ca with
  | nil=>intro ka hk; cases ka <;> simp_all [blank]
  | cons c ca ih =>
   intro ka hk
   cases ka with
   | nil=>simp at hk
   | cons k ka =>
    have hk' : ka.length = ca.length:=by simpa using hk
    obtain ⟨i1,i2⟩:=ih ka hk'
    have eb : blank (c :: ca).length = none :: blank ca.length:=rfl
    rw [eb]
    refine ⟨?_,?_⟩
    ·simp only [List.zipWith_cons_cons,List.map_cons,rC_a]; rw [i1]
    ·intro r' hr'
     rw [List.zipWith_cons_cons] at hr' ⊢
     rcases List.mem_cons.mp hr' with e | hr'
     ·subst e
      exact ⟨rC c k,List.mem_cons_self,by rw [rC_a,rC_a],fun K o hp=>rC_cell hp⟩
     ·obtain ⟨q,hq,a,b⟩:=i2 r' hr'
      exact ⟨q,List.mem_cons_of_mem _ hq,a,b⟩
 obtain ⟨e1,e2⟩:=e ca ka hl
 have key : ∀ r' ∈ VS L ln (blank ln.length) ca (blank ca.length) ++ rest,∃ r ∈ VS L ln rho ca ka ++ rest,r.a = r'.a ∧ ∀ K o,r.P K o → r'.P K o:=by
  intro r' hr'
  rcases List.mem_append.mp hr' with hr' | hr'
  ·rcases List.mem_cons.mp hr' with e | hr'
   ·subst e
    refine ⟨rFrame L ln rho,List.mem_append_left _ List.mem_cons_self,rfl,fun K o hp=>?_⟩
    obtain ⟨m,hn,_⟩:=hp
    refine ⟨m,hn,fun i nm tv _ ht=>?_⟩
    unfold blank at ht
    rw [List.getElem?_replicate] at ht
    split at ht <;> simp at ht
   ·obtain ⟨q,hq,a,b⟩:=e2 r' hr'
    exact ⟨q,List.mem_append_left _ (List.mem_cons_of_mem _ hq),a,b⟩
  ·exact ⟨r',List.mem_append_right _ hr',rfl,fun _ _ h=>h⟩
 have ea : (VS L ln (blank ln.length) ca (blank ca.length) ++ rest).map (·.a) = (VS L ln rho ca ka ++ rest).map (·.a):=by
  simp only [VS,List.map_append,List.map_cons,e1]; rfl
 exact h.tell ea key
end
section
variable {G : Gl} {n : Nat} {env : Env} {mu mu₁ mu₂ mu₃ nu rest last : List Res} {K : KH} {A : Around} {s : Shared} {E : Value → Shared → Prop} {α β γ : Type} {T : Ty α} {x : α} {U : Ty β} {y : β} {V : Ty γ} {z : γ} {e l r : Expr} {pos p : Pos} {xs : List α} {es : List Expr} {ts : List TV}
 {ln cn fn gn : List Str} {rho ka : List (Option TV)} {ca : List Addr} {id : Str} {st : Stmt} {ss : List Stmt} {F F' : Flow → KH → List Res → Prop} {sc : Scope}
noncomputable def Tests (G : Gl) (n : Nat) (env : Env) (mu : List Res) (ifs : List Expr) (b : Bool) : Prop :=
 ∀ K,Tri G n K mu (forIn ifs true fun c r=>if r = true then do let ok ← isTrue c env (eval c env); pure (ForInStep.yield ok) else pure (ForInStep.yield r)) fun _ mu' b'=>mu' = mu ∧ b' = b
theorem Tests.nil : Tests G n env mu [] true:=fun K nu A s hA hs=>wpAny_tests_nil ⟨K,mu,.refl K,hs,rfl,rfl⟩
theorem Tests.one {b : Bool} (h : Cond G n env mu e b mu) : Tests G n env mu [e] b:=fun K nu A s hA hs=>wpAny_tests_one (h.use hA hs fun K1 s1 h1 o1=>⟨K1,mu,h1,o1,rfl,rfl⟩)
noncomputable def Turn (G : Gl) (n : Nat) (cenv : Env) (ln : List Str) (ca : List Addr) (t elt : Expr) (ifs : List Expr) {α : Type} (T : Ty α) (x : α) {β : Type} (U : Ty β) (J J' : List Res) (O O' : List β) : Prop :=
 ∃ rho ka b,ka.length = ca.length ∧ As G n cenv (VS cenv.locals ln (blank ln.length) ca (blank ca.length) ++ J) t T x (VS cenv.locals ln rho ca ka ++ J) ∧ Tests G n cenv (VS cenv.locals ln rho ca ka ++ J) ifs b ∧
  (b = true → ∃ y,Ev G n cenv (VS cenv.locals ln rho ca ka ++ J) elt U y (VS cenv.locals ln rho ca ka ++ J') ∧ O' = O ++ [y]) ∧ (b = false → J' = J ∧ O' = O)
noncomputable def TurnX (G : Gl) (n : Nat) (cenv : Env) (ln : List Str) (ca : List Addr) (t elt : Expr) (ifs : List Expr) {α : Type} (T : Ty α) (x : α) {β : Type} (U : Ty β) (J : List Res) (O : List β) (I : List Res → List β → Prop) : Prop :=
 ∃ rho ka b,ka.length = ca.length ∧ As G n cenv (VS cenv.locals ln (blank ln.length) ca (blank ca.length) ++ J) t T x (VS cenv.locals ln rho ca ka ++ J) ∧ Tests G n cenv (VS cenv.locals ln rho ca ka ++ J) ifs b ∧
  (b = true → ∀ K,Tri G n K (VS cenv.locals ln rho ca ka ++ J) (eval elt cenv) fun K' mu' v=>∃ J' y,mu' = VS cenv.locals ln rho ca ka ++ J' ∧ U.rel K' v y ∧ I J' (O ++ [y])) ∧ (b = false → I J O)
theorem Turn.toX {cenv : Env} {t elt : Expr} {ifs : List Expr} {J J' : List Res} {O O' : List β} (h : Turn G n cenv ln ca t elt ifs T x U J J' O O') : TurnX G n cenv ln ca t elt ifs T x U J O (fun J₁ O₁=>J₁ = J' ∧ O₁ = O'):=by
 obtain ⟨rho,ka,b,h1,h2,h3,h4,h5⟩:=h
 refine ⟨rho,ka,b,h1,h2,h3,fun hb K=>?_,fun hb=>⟨(h5 hb).1.symm,(h5 hb).2.symm⟩⟩
 obtain ⟨y,hy,hO⟩:=h4 hb
 exact (hy K).mono fun K' mu' v _ ⟨e1,e2⟩=>⟨J',y,e1,e2,rfl,hO.symm⟩
structure CBlk (env cenv : Env) (ln cn fn gn : List Str) (ca : List Addr) : Prop where
 F : FEnv cenv ln cn ca gn
 S : Sees env cenv fn
 len : ca.length = cn.length
 code : cenv.code = env.code
 qual : cenv.qual = env.qual
theorem rList_app {D : Addr} {O : List β} {v : Value} {Q : Value → Shared → Prop} (hs : Own G K (rList D U O :: mu) s) (hr : U.rel K v y) (hz : O.length ≤ sizeLine) (hq : ∀ s',Own G K (rList D U (O ++ [y]) :: mu) s' → Q .none s') : wpAny G.M A (call (.builtin "list.append") [.ref D,v]) Q E s:=by
 obtain ⟨o,e,vs,m,rfl,hv⟩:=hs.get (r:=rList D U O) List.mem_cons_self
 refine wpAny_list_append_plain (items:=vs.toArray) ⟨m,e⟩ (fun h' hp hs'=>hq _ ?_) (by rw [List.size_toArray,hv.length]; exact hz)
 obtain ⟨m',e'⟩:=hp
 refine Own.change (t:=s.toks) (r':=rList D U (O ++ [y])) hs rfl hs' e' ⟨vs ++ [v],m',?_,hv.snoc hr⟩
 unfold listO
 simp
theorem comp_core {elt t iter : Expr} {ifs : List Expr} {ps : Pos} {use : Option (Value → Sem Unit)} {Q : Value → Shared → Prop} (J0 : List Res) (I : Nat → List Res → List β → Prop) (cs : CSc sc ln cn fn gn)
  (hk : env.scope.kind = .function) (hg : env.globals = mainGlobals) (hbl : env.builtins = builtinsNs) (hcl : ∀ nm ∈ fn,∃ c,env.cells.lookup nm = some c)
  (hi : EvIt G n env mu iter t T xs J0 last) (hO : I 0 J0 []) (hz : ∀ k J O,k ≤ xs.length → I k J O → O.length ≤ sizeLine)
  (hb : ∀ cenv ca,CBlk env cenv ln cn fn gn ca → ∀ (k : Nat) (x : α) (J : List Res) (O : List β),xs[k]? = some x → I k J O → TurnX G n cenv ln ca t elt ifs T x U J O (I (k + 1)))
  (hA : Room n A) (hs : Own G K (mu ++ nu) s)
  (hfin : ∀ K' D C mu' s' J O,I xs.length J O → KLe K K' → Own G K' (rList D U O :: rFrame C [] [] :: (J ++ (last ++ (mu' ++ nu)))) s' → compPost G.M A E use Q (.ref D) C (.ok .next) s')
  (hset : ∀ x,foldedSetIterable iter env x = pure x:=by intro _; rfl) :
  wpAny G.M A (comprehension (.ListComp elt [⟨t,iter,ifs,0⟩] sc pos) sc env ps (newList []) false (eval iter env) use) Q E s:=by
 refine wpAny_comprehension_free (cl:=clOf env sc.names []) rfl hset (closure_eq fun nm hm=>hcl nm (cs.fre ▸ hm)) cs.kind (fun x hx hl=>lookup_of_mem cs.nd (by obtain ⟨a,b⟩:=x; have hl : b = .local:=hl; subst hl; exact hx))
  (Tri.use (hi K) hA hs fun K1 mu1 v s1 h1 o1 r1=>Tri.use r1 hA o1 fun K2 mu2 w s2 h2 o2 ⟨it,R,e1,e2,It⟩=>?_)
 subst e1 e2
 refine wpAny_newObj_type ?_
 have o3:=o2.pushOwned { cls:=.type "list", data:=.seq ([] : List Value).toArray } (rList s2.heap.objs.size U []) rfl ⟨[],0,rfl,trivial⟩
 generalize hD : s2.heap.objs.size = D at o3 ⊢
 generalize hs3 : ({ s2 with heap:=s2.heap.push { cls:=.type "list", data:=.seq ([] : List Value).toArray } } : Shared) = s3 at o3 ⊢
 simp only [newFunctionEnv,Option.isSome_some,if_true]
 refine wpAny_bind (wpAny_alloc ?_)
 have o4:=o3.pushOwned { cls:=.type "dict", data:=.dict #[] } (rFrame s3.heap.objs.size ln (blank ln.length)) rfl ⟨fun _=>none,⟨#[],0,rfl,fun _ he=>by simp at he,fun _=>rfl⟩,fun i nm tv _ ht=>by
  unfold blank at ht
  rw [List.getElem?_replicate] at ht
  split at ht <;> simp at ht⟩
 generalize hC : s3.heap.objs.size = C at o4 ⊢
 generalize hs4 : ({ s3 with heap:=s3.heap.push { cls:=.type "dict", data:=.dict #[] } } : Shared) = s4 at o4 ⊢
 have hsz4 : s4.heap.objs.size = C + 1:=by rw [← hs4,← hC]; exact Heap.size_push ..
 refine wpAny_bind (wpAny_layCells _ (fun name kind cells=>by cases hkc : kind == NameKind.cell <;> simp [hkc]) _ _ _ _ ?_)
 have o5:=own_cells sc.names s4 _ o4
 rw [hsz4] at o5 ⊢
 refine wpAny_bind (wpAny_pure (wpAny_pure ?_))
 generalize hs5 : ({ s4 with heap:=pushCells s4.heap sc.names } : Shared) = s5 at o5 ⊢
 dsimp only
 generalize hce : ({ scope:=relabel sc env,locals:=C,globals:=env.globals,cells:=cellsFrom (C + 1) sc.names (clOf env sc.names []),qual:=env.qual,func:=none,code:=env.code,frame:=env.frame,builtins:=env.builtins } : Env) = cenv
 let ca:=List.range' (C + 1) (cellNames sc.names).length
 have hlen : ca.length = cn.length:=by show (List.range' ..).length = _; rw [List.length_range',cs.cel]
 have hkind : ∀ nm k,sc.names.lookup nm = some k → k ≠ .free → cenv.kindOf nm = some k:=fun nm k hl hne=>by
  subst hce
  rcases relabel_lookup (env:=env) hl with q | q
  ·exact q
  ·exact absurd q.1 hne
 have B : CBlk env cenv ln cn fn gn ca:=by
  refine ⟨⟨?_,?_,?_,?_,?_,?_,?_,cs.lnd,?_⟩,?_,hlen,by subst hce; rfl,by subst hce; rfl⟩
  ·subst hce; exact cs.kind
  ·subst hce; exact hg
  ·subst hce; exact hbl
  ·exact fun nm hm=>hkind nm _ (cs.loc nm hm) (by decide)
  ·exact fun nm hm=>hkind nm _ (lookup_of_mem cs.nd (mem_cellNames (cs.cel ▸ hm))) (by decide)
  ·intro i nm c h1 h2
   subst hce
   have : ca[i]? = some (C + 1 + i):=by
    show (List.range' (C + 1) (cellNames sc.names).length)[i]? = _
    rw [List.getElem?_range' (by have:=(List.getElem?_eq_some_iff.mp h1).1; rw [cs.cel] at this; exact this)]
    simp
   rw [this] at h2
   cases h2
   exact cellsFrom_at _ _ _ i nm cs.nd (cs.cel ▸ h1)
  ·exact fun nm hm=>hkind nm _ (cs.gl nm hm) (by decide)
  ·intro nm hm
   refine cs.good nm ?_
   rcases List.mem_append.mp hm with h | h
   ·exact List.mem_append_left _ h
   ·rcases List.mem_append.mp h with h | h
    ·exact List.mem_append_right _ (List.mem_append_left _ h)
    ·exact List.mem_append_right _ (List.mem_append_right _ (List.mem_append_right _ h))
  ·intro nm hm
   have hf : (nm,NameKind.free) ∈ sc.names:=mem_freeNames.mp (cs.fre ▸ hm)
   have hlk:=lookup_of_mem cs.nd hf
   obtain ⟨c,hc⟩:=hcl nm hm
   refine ⟨⟨c,hc,?_⟩,?_,?_,cs.good nm (List.mem_append_right _ (List.mem_append_right _ (List.mem_append_left _ hm)))⟩
   ·subst hce
    show (cellsFrom (C + 1) sc.names (clOf env sc.names [])).lookup nm = some c
    have hni : nm ∉ cellNames sc.names:=fun hm'=>by
     have:=lookup_of_mem cs.nd (mem_cellNames hm')
     rw [hlk] at this
     cases this
    rw [cellsFrom_notin _ _ _ _ hni,clOf_at _ _ _ cs.nd (cs.fre ▸ hm),hc]
    rfl
   ·subst hce
    rcases relabel_lookup (env:=env) hlk with q | q
    ·exact .inr q
    ·exact .inl q.2
   ·subst hce; exact cs.kind
 have hloc : cenv.locals = C:=by subst hce; rfl
 have o6 : Own G K2 (R 0 ++ (VS C ln (blank ln.length) ca (blank ca.length) ++ (rList D U [] :: (J0 ++ nu)))) s5:=by
  refine o5.perm ?_
  have e : cells0 (C + 1) (cellNames sc.names).length = List.zipWith rC ca (blank ca.length):=by
   show _ = List.zipWith rC (List.range' (C + 1) (cellNames sc.names).length) (blank (List.range' (C + 1) (cellNames sc.names).length).length)
   rw [List.length_range']; rfl
  rw [e]
  unfold VS
  refine (List.perm_middle).trans ?_
  have : (rFrame C ln (blank ln.length) :: (List.zipWith rC ca (blank ca.length) ++ rList D U [] :: (R 0 ++ J0 ++ nu))).Perm ((rFrame C ln (blank ln.length) :: List.zipWith rC ca (blank ca.length)) ++ rList D U [] :: (R 0 ++ (J0 ++ nu))):=by
   rw [List.append_assoc]; exact .refl _
  refine this.trans ?_
  have b1 : ((rFrame C ln (blank ln.length) :: List.zipWith rC ca (blank ca.length)) ++ rList D U [] :: (R 0 ++ (J0 ++ nu))).Perm ((rFrame C ln (blank ln.length) :: List.zipWith rC ca (blank ca.length)) ++ (R 0 ++ rList D U [] :: (J0 ++ nu))):=List.perm_middle.symm.append_left _
  refine b1.trans ?_
  rw [← List.append_assoc,← List.append_assoc]
  exact List.perm_append_comm.append_right _
 have key : ∀ (m k : Nat) (K3 : KH) (s3 : Shared) (J : List Res) (O : List β),I k J O → xs.length - k = m → k ≤ xs.length → KLe K2 K3 → Own G K3 (R k ++ (VS C ln (blank ln.length) ca (blank ca.length) ++ (rList D U O :: (J ++ nu)))) s3 →
   codeAny G.M A (.compLoop (.ListComp elt [⟨t,iter,ifs,0⟩] sc pos) 0 (.ref it) (.ref D) cenv) (compPost G.M A E use Q (.ref D) C) s3:=by
  intro m
  induction m with
  | zero =>
   intro k K3 s3 J O hI hm hk' hle ho
   have hkl : k = xs.length:=by lia
   subst hkl
   refine codeAny_of_tree ?_
   show wpAny _ (A.under (.compLoop (.ListComp elt [⟨t,iter,ifs,0⟩] sc pos) 0 (.ref it) (.ref D) cenv)) ((compTurn (.ListComp elt [⟨t,iter,ifs,0⟩] sc pos) 0 (.ref it) (.ref D) cenv).onRaise (fun x=>do noteFrame x cenv; theTreesLotGoes x)) _ _ _
   rw [Around.under_of_weight rfl]
   refine wpAny_noted ?_
   rw [compTurn_list]
   refine wpAny_bind (wpAny_standAt (wpAny_bind (Tri.use (It.stop n K3 hle) hA ho fun K4 mu4 o s4 h4 o4 ⟨e4,e5⟩=>?_)))
   subst e4 e5
   refine wpAny_pure (hfin K4 D C (List.zipWith rC ca (blank ca.length)) s4 J O hI (h1.trans (h2.trans (hle.trans h4))) ?_)
   have o7 : Own G K4 (rFrame C ln (blank ln.length) :: (rList D U O :: (J ++ (mu4 ++ (List.zipWith rC ca (blank ca.length) ++ nu))))) s4:=by
    refine o4.perm ?_
    unfold VS
    rw [List.cons_append]
    refine List.perm_middle.trans (List.Perm.cons _ ?_)
    rw [← List.append_assoc]
    refine List.perm_middle.trans (List.Perm.cons _ ?_)
    rw [← List.append_assoc,← List.append_assoc,← List.append_assoc]
    refine List.Perm.append_right nu ?_
    rw [List.append_assoc J]
    exact List.perm_append_comm
   have e : Own G K4 (rFrame C [] [] :: (rList D U O :: (J ++ (mu4 ++ (List.zipWith rC ca (blank ca.length) ++ nu))))) s4:=by
    refine o7.tell rfl fun r hr=>?_
    rcases List.mem_cons.mp hr with rfl | hr
    ·exact ⟨_,List.mem_cons_self,rfl,fun K o ⟨m,hn,_⟩=>⟨m,hn,fun i nm tv h=>by simp at h⟩⟩
    ·exact ⟨r,List.mem_cons_of_mem _ hr,rfl,fun _ _ h=>h⟩
   exact e.perm (List.Perm.swap ..)
  | succ m ih =>
   intro k K3 s3 J O hI hm hk' hle ho
   have hkl : k < xs.length:=by lia
   have hx : xs[k]? = some xs[k]:=List.getElem?_eq_getElem hkl
   obtain ⟨rho,ka,b,hla,ha,htst,hyes,hno⟩:=hb cenv ca B k xs[k] J O hx hI
   rw [hloc] at ha htst hyes
   refine codeAny_of_tree ?_
   show wpAny _ (A.under (.compLoop (.ListComp elt [⟨t,iter,ifs,0⟩] sc pos) 0 (.ref it) (.ref D) cenv)) ((compTurn (.ListComp elt [⟨t,iter,ifs,0⟩] sc pos) 0 (.ref it) (.ref D) cenv).onRaise (fun x=>do noteFrame x cenv; theTreesLotGoes x)) _ _ _
   rw [Around.under_of_weight rfl]
   refine wpAny_noted ?_
   rw [compTurn_list]
   refine wpAny_bind (wpAny_standAt (wpAny_bind (Tri.use (It.item n K3 k xs[k] hle hx) hA ho fun K4 mu4 o s4 h4 o4 ⟨v,e4,r4,hgo⟩=>?_)))
   subst e4
   refine wpAny_bind (Tri.use hgo hA o4 fun K5 mu5 _ s5 h5 o5 e5=>?_)
   subst e5
   have shape : ∀ (v' : List Res) (Jk : List Res) (Ok : List β),(R (k + 1) ++ (v' ++ (rList D U Ok :: (Jk ++ nu)))).Perm (v' ++ Jk ++ (rList D U Ok :: (R (k + 1) ++ nu))):=by
    intro v' Jk Ok
    have a1 : (R (k + 1) ++ (v' ++ (rList D U Ok :: (Jk ++ nu)))).Perm (v' ++ (R (k + 1) ++ (rList D U Ok :: (Jk ++ nu)))):=by
     rw [← List.append_assoc,← List.append_assoc]; exact List.perm_append_comm.append_right _
    have a2 : (R (k + 1) ++ (rList D U Ok :: (Jk ++ nu))).Perm (Jk ++ (rList D U Ok :: (R (k + 1) ++ nu))):=by
     refine List.perm_middle.trans (List.Perm.trans (List.Perm.cons _ ?_) List.perm_middle.symm)
     rw [← List.append_assoc,← List.append_assoc]; exact List.perm_append_comm.append_right _
    rw [List.append_assoc]
    exact a1.trans (a2.append_left _)
   have o5:=o5.perm (shape (VS C ln (blank ln.length) ca (blank ca.length)) J O)
   refine wpAny_bind (ha.use (T.mono h5 r4) hA o5 fun K6 s6 h6 o6=>?_)
   refine wpAny_bind (Tri.use (htst K6) hA o6 fun K7 mu7 b' s7 h7 o7 ⟨e7,e8⟩=>?_)
   subst e7 e8
   have hle7 : KLe K2 K7:=hle.trans (h4.trans (h5.trans (h6.trans h7)))
   cases b' with
   | true =>
    simp only [if_true]
    refine wpAny_bind (wpAny_bind (Tri.use (hyes rfl K7) hA o7 fun K8 mu8 w s8 h8 o8 ⟨J',y,e8,r8,hI'⟩=>?_))
    subst e8
    have o8' : Own G K8 (rList D U O :: (VS C ln rho ca ka ++ J' ++ (R (k + 1) ++ nu))) s8:=o8.perm List.perm_middle
    refine wpAny_bind (rList_app o8' r8 (hz k J O hk' hI) fun s9 o9=>wpAny_pure (wpAny_pure ⟨rfl,ih (k + 1) K8 s9 J' (O ++ [y]) hI' (by lia) (by lia) (hle7.trans h8) ?_⟩))
    have o10 : Own G K8 (VS C ln rho ca ka ++ (rList D U (O ++ [y]) :: (J' ++ (R (k + 1) ++ nu)))) s9:=o9.perm (by
     refine List.Perm.trans ?_ List.perm_middle.symm
     rw [List.append_assoc])
    have o11:=VS_blank o10 hla
    refine o11.perm ?_
    refine List.Perm.trans ?_ (shape (VS C ln (blank ln.length) ca (blank ca.length)) J' (O ++ [y])).symm
    rw [List.append_assoc]
    exact (List.perm_middle.symm).append_left _
   | false =>
    simp only [Bool.false_eq_true,if_false]
    refine wpAny_pure ⟨rfl,ih (k + 1) K7 s7 J O (hno rfl) (by lia) (by lia) hle7 ?_⟩
    have o10 : Own G K7 (VS C ln rho ca ka ++ (J ++ (rList D U O :: (R (k + 1) ++ nu)))) s7:=by
     rw [← List.append_assoc]; exact o7
    have o11:=VS_blank o10 hla
    refine o11.perm ?_
    refine List.Perm.trans ?_ (shape (VS C ln (blank ln.length) ca (blank ca.length)) J O).symm
    rw [List.append_assoc]
 have loop:=key _ 0 K2 s5 J0 [] hO rfl (Nat.zero_le _) (.refl _) o6
 refine codeAny_compStart_list loop ?_
 refine Tri.use (It.self n K2 0 (.refl _) (Nat.zero_le _)) hA o6 fun K8 mu8 v s8 h8 o8 ⟨e8,e9⟩=>?_
 subst e8 e9
 exact key _ 0 K8 s8 J0 [] hO rfl (Nat.zero_le _) h8 o8
end
section
variable {G : Gl} {n : Nat} {env : Env} {mu mu₁ mu₂ mu₃ nu rest last : List Res} {K : KH} {A : Around} {s : Shared} {E : Value → Shared → Prop} {α β γ : Type} {T : Ty α} {x : α} {U : Ty β} {y : β} {V : Ty γ} {z : γ} {e l r : Expr} {pos p : Pos} {xs : List α} {es : List Expr} {ts : List TV}
 {ln cn fn gn ln₀ cn₀ gn₀ : List Str} {rho ka : List (Option TV)} {ca ca₀ : List Addr} {id : Str} {st : Stmt} {ss : List Stmt} {F F' : Flow → KH → List Res → Prop} {sc : Scope}
noncomputable def CapOk (env : Env) (fn : List Str) : Prop:=∀ nm ∈ fn,∃ c,env.cells.lookup nm = some c
theorem CapOk.nil : CapOk env []:=fun _ h=>nomatch h
theorem comp_X {elt t iter : Expr} {ifs : List Expr} (J0 : List Res) (I : Nat → List Res → List β → Prop) (F₀ : FEnv env ln₀ cn₀ ca₀ gn₀) (cs : CSc sc ln cn fn gn) (hcl : CapOk env fn)
  (hi : EvIt G n env mu iter t T xs J0 last) (hO : I 0 J0 []) (hz : ∀ k J O,k ≤ xs.length → I k J O → O.length ≤ sizeLine)
  (hb : ∀ cenv ca,CBlk env cenv ln cn fn gn ca → ∀ (k : Nat) (x : α) (J : List Res) (O : List β),xs[k]? = some x → I k J O → TurnX G n cenv ln ca t elt ifs T x U J O (I (k + 1)))
  (hset : ∀ x,foldedSetIterable iter env x = pure x:=by intro _; rfl) : ∀ K,Tri G n K mu (eval (.ListComp elt [⟨t,iter,ifs,0⟩] sc pos) env) fun K' mu' v=>∃ J O,I xs.length J O ∧ mu' = J ++ last ∧ (tList U).rel K' v O:=fun K nu A s hA hs=>by
 rw [eval_ListComp]
 refine comp_core (use:=none) J0 I cs F₀.kind F₀.glob F₀.blt hcl hi hO hz hb hA hs (fun K' D C mu' s' J O hI hle ho=>?_) hset
 obtain ⟨o,e,m,hn,_⟩:=ho.get (r:=rFrame C [] []) (List.mem_cons_of_mem _ List.mem_cons_self)
 refine ⟨m,ns_of e hn,fun h' hs'=>?_⟩
 have o1:=ho.perm (List.Perm.swap (rFrame C [] []) (rList D U O) _)
 have o2 : Own G K' (rList D U O :: (J ++ (last ++ (mu' ++ nu)))) { s' with heap:=h' }:=Own.drop o1 hs'.extBut rfl rfl
 obtain ⟨ob,⟨vs,m',rfl,hv⟩,hk,o3⟩:=o2.freeze
 have hle':=kput_le (o:=listO vs m') hk
 refine ⟨_,J ++ last,hle.trans hle',o3.sub ?_,J,O,hI,rfl,D,vs,m',rfl,kput_self ..,hv.mono fun _ _=>U.mono hle'⟩
 rw [List.append_assoc]
 exact ((List.sublist_append_right _ _).append_left _).append_left _
theorem Ev.compM {elt t iter : Expr} {ifs : List Expr} (J : Nat → List Res) (O : Nat → List β) (F₀ : FEnv env ln₀ cn₀ ca₀ gn₀) (cs : CSc sc ln cn fn gn) (hcl : CapOk env fn)
  (hi : EvIt G n env mu iter t T xs (J 0) last) (hO : O 0 = []) (hz : ∀ k,k ≤ xs.length → (O k).length ≤ sizeLine)
  (hb : ∀ cenv ca,CBlk env cenv ln cn fn gn ca → ∀ (k : Nat) (x : α),xs[k]? = some x → Turn G n cenv ln ca t elt ifs T x U (J k) (J (k + 1)) (O k) (O (k + 1)))
  (hset : ∀ x,foldedSetIterable iter env x = pure x:=by intro _; rfl) : Ev G n env mu (.ListComp elt [⟨t,iter,ifs,0⟩] sc pos) (tList U) (O xs.length) (J xs.length ++ last):=fun K =>
 (comp_X (T:=T) (U:=U) (J 0) (fun k J' O'=>J' = J k ∧ O' = O k) F₀ cs hcl hi ⟨rfl,hO.symm⟩ (fun k J' O' hk h=>by obtain ⟨rfl,rfl⟩:=h; exact hz k hk) (fun cenv ca B k x J' O' hx h=>by obtain ⟨rfl,rfl⟩:=h; exact (hb cenv ca B k x hx).toX) hset K).mono
  fun K' mu' v _ ⟨J',O',⟨e1,e2⟩,e3,e4⟩=>by subst e1 e2; exact ⟨e3,e4⟩
theorem Ev.comp {elt t iter : Expr} {ifs : List Expr} (p : α → Bool) (f : α → β) (F₀ : FEnv env ln₀ cn₀ ca₀ gn₀) (cs : CSc sc ln cn fn gn) (hcl : CapOk env fn) (hi : EvIt G n env mu iter t T xs mu₁ last) (hz : xs.length ≤ sizeLine)
  (hb : ∀ cenv ca,CBlk env cenv ln cn fn gn ca → ∀ x ∈ xs,∃ rho ka,ka.length = ca.length ∧ As G n cenv (VS cenv.locals ln (blank ln.length) ca (blank ca.length) ++ mu₁) t T x (VS cenv.locals ln rho ca ka ++ mu₁) ∧ Tests G n cenv (VS cenv.locals ln rho ca ka ++ mu₁) ifs (p x) ∧
   (p x = true → Ev G n cenv (VS cenv.locals ln rho ca ka ++ mu₁) elt U (f x) (VS cenv.locals ln rho ca ka ++ mu₁)))
  (hset : ∀ x,foldedSetIterable iter env x = pure x:=by intro _; rfl) : Ev G n env mu (.ListComp elt [⟨t,iter,ifs,0⟩] sc pos) (tList U) ((xs.filter p).map f) (mu₁ ++ last):=by
 have key:=Ev.compM (pos:=pos) (elt:=elt) (U:=U) (fun _=>mu₁) (fun k=>((xs.take k).filter p).map f) F₀ cs hcl hi (by simp) (fun k hk=>by
   rw [List.length_map]
   refine Nat.le_trans (List.length_filter_le _ _) ?_
   rw [List.length_take]; lia) (fun cenv ca B k x hx=>by
  obtain ⟨rho,ka,h1,h2,h3,h4⟩:=hb cenv ca B x (List.mem_of_getElem? hx)
  have e : xs.take (k + 1) = xs.take k ++ [x]:=by rw [List.take_add_one,hx]; rfl
  refine ⟨rho,ka,p x,h1,h2,h3,fun hp=>⟨f x,h4 hp,?_⟩,fun hp=>⟨rfl,?_⟩⟩
  ·rw [e,List.filter_append,List.map_append]; simp [hp]
  ·rw [e,List.filter_append]; simp [hp]) hset
 simpa using key
theorem filter_true (xs : List α) : xs.filter (fun _=>true) = xs:=List.filter_eq_self.mpr (by simp)
theorem Ev.compA {elt t iter : Expr} (f : α → β) (F₀ : FEnv env ln₀ cn₀ ca₀ gn₀) (cs : CSc sc ln cn fn gn) (hcl : CapOk env fn) (hi : EvIt G n env mu iter t T xs mu₁ last) (hz : xs.length ≤ sizeLine)
  (hb : ∀ cenv ca,CBlk env cenv ln cn fn gn ca → ∀ x ∈ xs,∃ rho ka,ka.length = ca.length ∧ As G n cenv (VS cenv.locals ln (blank ln.length) ca (blank ca.length) ++ mu₁) t T x (VS cenv.locals ln rho ca ka ++ mu₁) ∧ Ev G n cenv (VS cenv.locals ln rho ca ka ++ mu₁) elt U (f x) (VS cenv.locals ln rho ca ka ++ mu₁))
  (hset : ∀ x,foldedSetIterable iter env x = pure x:=by intro _; rfl) : Ev G n env mu (.ListComp elt [⟨t,iter,[],0⟩] sc pos) (tList U) (xs.map f) (mu₁ ++ last):=by
 have key:=Ev.comp (pos:=pos) (elt:=elt) (U:=U) (ifs:=[]) (fun _=>true) f F₀ cs hcl hi hz (fun cenv ca B x hx=>by
  obtain ⟨rho,ka,h1,h2,h3⟩:=hb cenv ca B x hx
  exact ⟨rho,ka,h1,h2,Tests.nil,fun _=>h3⟩) hset
 rw [filter_true] at key
 exact key
theorem Ev.map {elt t iter : Expr} (f : α → β) (F₀ : FEnv env ln₀ cn₀ ca₀ gn₀) (cs : CSc sc ln cn fn gn) (hcl : CapOk env fn) (hi : EvIt G n env mu iter t T xs mu₁ []) (hz : xs.length ≤ sizeLine)
  (hb : ∀ cenv ca,CBlk env cenv ln cn fn gn ca → ∀ x ∈ xs,∃ rho ka,ka.length = ca.length ∧ As G n cenv (VS cenv.locals ln (blank ln.length) ca (blank ca.length) ++ mu₁) t T x (VS cenv.locals ln rho ca ka ++ mu₁) ∧ Ev G n cenv (VS cenv.locals ln rho ca ka ++ mu₁) elt U (f x) (VS cenv.locals ln rho ca ka ++ mu₁))
  (hset : ∀ x,foldedSetIterable iter env x = pure x:=by intro _; rfl) : Ev G n env mu (.ListComp elt [⟨t,iter,[],0⟩] sc pos) (tList U) (xs.map f) mu₁:=by
 have:=Ev.compA (pos:=pos) f F₀ cs hcl hi hz hb hset
 rwa [List.append_nil] at this
theorem Ev.sift {elt t iter c : Expr} (p : α → Bool) (f : α → β) (F₀ : FEnv env ln₀ cn₀ ca₀ gn₀) (cs : CSc sc ln cn fn gn) (hcl : CapOk env fn) (hi : EvIt G n env mu iter t T xs mu₁ []) (hz : xs.length ≤ sizeLine)
  (hb : ∀ cenv ca,CBlk env cenv ln cn fn gn ca → ∀ x ∈ xs,∃ rho ka,ka.length = ca.length ∧ As G n cenv (VS cenv.locals ln (blank ln.length) ca (blank ca.length) ++ mu₁) t T x (VS cenv.locals ln rho ca ka ++ mu₁) ∧ Cond G n cenv (VS cenv.locals ln rho ca ka ++ mu₁) c (p x) (VS cenv.locals ln rho ca ka ++ mu₁) ∧
   (p x = true → Ev G n cenv (VS cenv.locals ln rho ca ka ++ mu₁) elt U (f x) (VS cenv.locals ln rho ca ka ++ mu₁)))
  (hset : ∀ x,foldedSetIterable iter env x = pure x:=by intro _; rfl) : Ev G n env mu (.ListComp elt [⟨t,iter,[c],0⟩] sc pos) (tList U) ((xs.filter p).map f) mu₁:=by
 have:=Ev.comp (pos:=pos) p f F₀ cs hcl hi hz (fun cenv ca B x hx=>let ⟨rho,ka,h1,h2,h3,h4⟩:=hb cenv ca B x hx; ⟨rho,ka,h1,h2,Tests.one h3,h4⟩) hset
 rwa [List.append_nil] at this
theorem ExS.assignCompX {elt t iter : Expr} {ifs : List Expr} {py spos : Pos} (J0 : List Res) (I : Nat → List Res → List β → Prop) (M : List Res → List β → List Res) (F₀ : FEnv env ln₀ cn₀ ca₀ gn₀) (cs : CSc sc ln cn fn gn) (hcl : CapOk env fn)
  (hi : EvIt G n env mu iter t T xs J0 last) (hO : I 0 J0 []) (hz : ∀ k J O,k ≤ xs.length → I k J O → O.length ≤ sizeLine)
  (hb : ∀ cenv ca,CBlk env cenv ln cn fn gn ca → ∀ (k : Nat) (x : α) (J : List Res) (O : List β),xs[k]? = some x → I k J O → TurnX G n cenv ln ca t elt ifs T x U J O (I (k + 1)))
  (ha : ∀ J O,I xs.length J O → As G n env (J ++ last) (.Name id py) (tList U) O (M J O))
  (hsw : swapsWith (.ListComp elt [⟨t,iter,ifs,0⟩] sc pos) (some (.Name id py)) spos.line env = pure true)
  (hset : ∀ x,foldedSetIterable iter env x = pure x:=by intro _; rfl) : ExS G n env mu (.Assign [.Name id py] (.ListComp elt [⟨t,iter,ifs,0⟩] sc pos) spos) (fun f _ mu'=>f = .next ∧ ∃ J O,I xs.length J O ∧ mu' = M J O):=fun K nu A s hA hs=>by
 rw [exec_Assign_Name_used _ _ _ _ hsw]
 refine wpAny_bind (wpAny_standAt (wpAny_bind ?_))
 show wpAny _ A (do let _ ← comprehension (.ListComp elt [⟨t,iter,ifs,0⟩] sc pos) sc env _ (newList []) false (eval iter env) (some (PySem.assign (.Name id py) env))) _ _ s
 refine wpAny_bind (wpAny_mono (E':=noE) (comp_core (use:=some (PySem.assign (.Name id py) env)) (Q:=fun _ s'=>∃ K' mu',KLe K K' ∧ Own G K' (mu' ++ nu) s' ∧ ∃ J O,I xs.length J O ∧ mu' = M J O) (E:=noE) J0 I cs F₀.kind F₀.glob F₀.blt hcl hi hO hz hb hA hs (fun K' D C mu' s' J O hI hle ho=>?_) hset)
  (fun _ s' ⟨K',mu',h1,h2,h3⟩=>wpAny_pure (wpAny_pure ⟨K',mu',h1,h2,rfl,h3⟩)) fun _ _ x=>x)
 obtain ⟨ob,⟨vs,m',rfl,hv⟩,hk,o3⟩:=ho.freeze
 have hle':=kput_le (o:=listO vs m') hk
 have o4 : Own G (kput K' D (listO vs m')) (J ++ last ++ (rFrame C [] [] :: (mu' ++ nu))) s':=o3.perm (by
  rw [← List.append_assoc]; exact List.perm_middle.symm)
 show wpAny G.M A (PySem.assign (.Name id py) env (.ref D)) _ _ _
 refine (ha J O hI).use ⟨D,vs,m',rfl,kput_self ..,hv.mono fun _ _=>U.mono hle'⟩ hA o4 fun K5 s5 h5 o5=>?_
 have o6 : Own G K5 (rFrame C [] [] :: (M J O ++ (mu' ++ nu))) s5:=o5.perm List.perm_middle
 obtain ⟨o,e,m,hn,_⟩:=o6.get (r:=rFrame C [] []) List.mem_cons_self
 refine ⟨m,ns_of e hn,fun h' hs'=>?_⟩
 have o7 : Own G K5 (M J O ++ (mu' ++ nu)) { s5 with heap:=h' }:=Own.drop o6 hs'.extBut rfl rfl
 exact ⟨K5,M J O,hle.trans (hle'.trans h5),o7.sub ((List.sublist_append_right _ _).append_left _),J,O,hI,rfl⟩
theorem ExS.assignComp {elt t iter : Expr} {ifs : List Expr} {py spos : Pos} (J : Nat → List Res) (O : Nat → List β) (F₀ : FEnv env ln₀ cn₀ ca₀ gn₀) (cs : CSc sc ln cn fn gn) (hcl : CapOk env fn)
  (hi : EvIt G n env mu iter t T xs (J 0) last) (hO : O 0 = []) (hz : ∀ k,k ≤ xs.length → (O k).length ≤ sizeLine)
  (hb : ∀ cenv ca,CBlk env cenv ln cn fn gn ca → ∀ (k : Nat) (x : α),xs[k]? = some x → Turn G n cenv ln ca t elt ifs T x U (J k) (J (k + 1)) (O k) (O (k + 1)))
  (ha : As G n env (J xs.length ++ last) (.Name id py) (tList U) (O xs.length) mu₂)
  (hsw : swapsWith (.ListComp elt [⟨t,iter,ifs,0⟩] sc pos) (some (.Name id py)) spos.line env = pure true)
  (hset : ∀ x,foldedSetIterable iter env x = pure x:=by intro _; rfl) : ExS G n env mu (.Assign [.Name id py] (.ListComp elt [⟨t,iter,ifs,0⟩] sc pos) spos) (fNext mu₂) :=
 (ExS.assignCompX (T:=T) (U:=U) (J 0) (fun k J' O'=>J' = J k ∧ O' = O k) (fun _ _=>mu₂) F₀ cs hcl hi ⟨rfl,hO.symm⟩ (fun k J' O' hk h=>by obtain ⟨rfl,rfl⟩:=h; exact hz k hk) (fun cenv ca B k x J' O' hx h=>by obtain ⟨rfl,rfl⟩:=h; exact (hb cenv ca B k x hx).toX)
  (fun J' O' h=>by obtain ⟨rfl,rfl⟩:=h; exact ha) hsw hset).mono fun f K mu' ⟨e,_,_,_,e'⟩=>⟨e,e'⟩
structure TopF (G : Gl) : Prop where
 nolim : G.mc "sys.recursionlimit" = none
 warm : G.cold = false
 tbG : G.TB ≠ mainGlobals
 tbB : G.TB ≠ builtinsNs
 sysm : (∃ o,G.H.get? sysModules = some o) ∧ sysModules ≠ G.TB ∧ sysModules ≠ cStatics
 frOk : ∀ a o,G.fr.lookup a = some o → (a ≠ G.TB ∧ a ≠ cStatics) ∧ G.H.get? a = some o
theorem Own.noSys (h : Own G K mu s) (t : TopF G) {r : Res} (hr : r ∈ mu) : (r.a == sysModules) = false:=by
 obtain ⟨⟨o,e⟩,a,b⟩:=t.sysm
 have:=h.old _ _ a b e
 rw [beq_eq_false_iff_ne]
 intro q
 rw [← q,(h.off r hr).1] at this
 cases this
theorem Own.fr_in (h : Own G K mu s) (t : TopF G) : G.fr.In s.heap:=fun a o e=>let ⟨⟨a1,a2⟩,b⟩:=t.frOk a o e; h.k _ _ (h.old _ _ a1 a2 b)
theorem Own.ns {a : Addr} {m : Str → Option Value} (h : Own G K mu s) (hn : G.H.Ns a m) (ha : G.TB ≠ a) (hc : a ≠ cStatics) : s.heap.Ns a m:=by
 obtain ⟨o,e,hn⟩:=of_ns hn
 exact ns_of (h.k _ _ (h.old _ _ (Ne.symm ha) hc e)) hn
theorem Own.nolim (h : Own G K mu s) (t : TopF G) : s.heap.NoLimit:=⟨_,h.st.1,t.nolim⟩
noncomputable def GV (G : Gl) (nm : Str) (v : Value) : Prop:=TopF G ∧ ((∃ mg,G.H.Ns mainGlobals mg ∧ mg nm = some v) ∨ ∃ mg mb,G.H.Ns mainGlobals mg ∧ mg nm = none ∧ G.H.Ns builtinsNs mb ∧ mb nm = some v)
theorem Ev.glb {v : Value} {i : Nat} (F₀ : FEnv env ln cn ca gn) (h : gn[i]? = some id) (hv : GV G id v) : Ev G n env mu (.Name id pos) tVal v mu:=fun K nu A s hA hs=>by
 have hm:=List.mem_of_getElem? h
 have hd:=(F₀.good id (List.mem_append_right _ (List.mem_append_right _ hm))).1
 obtain ⟨t,hv⟩:=hv
 rcases hv with ⟨mg,hg,e⟩ | ⟨mg,mb,hg,e,hb,e'⟩
 ·exact Calls.Name_function_global F₀.kind (F₀.gl id hm) (Calls.loadGlobal_global (by rw [F₀.glob]; exact hs.ns hg t.tbG (by decide)) e (done (.refl K) hs rfl)) hd
 ·exact Calls.Name_function_global F₀.kind (F₀.gl id hm) (Calls.loadGlobal_builtin (by rw [F₀.glob]; exact hs.ns hg t.tbG (by decide)) e (by rw [F₀.blt]; exact hs.ns hb t.tbB (by decide)) e' (done (.refl K) hs rfl)) hd
theorem Ev.callT {f : Expr} {tn : String} (hf : Ev G n env mu f tVal (.type tn) mu₁) (ha : EvA G n env mu₁ pos (e :: es) ts mu₂) (hc : Cal G n (.type tn) ts mu₂ T x mu₃)
  (hp : (backTo pos (starEach (e :: es) env)).any (·.1) = false:=by rfl) (hst : starEach (e :: es) env = (false,eval e env) :: starEach es env:=by rfl)
  (hn : eval (.Call f (e :: es) [] pos) env = (do callWith pos (← eval f env) [] (backTo pos (starEach (e :: es) env)) (backToKw pos (keywordEach [] env))):=by rfl) : Ev G n env mu (.Call f (e :: es) [] pos) T x mu₃:=fun K nu A s hA hs=>by
 rw [hn]
 refine wpAny_bind (hf.use hA hs fun K1 v s1 h1 o1 r1=>?_)
 have r1 : v = .type tn:=r1
 subst r1
 refine PySem.callWith_type hp (Tri.use (ha.args hst K1) hA o1 fun K2 mu2 a s2 h2 o2 ⟨e2,vs,e3,r2⟩=>?_)
 subst e2 e3
 exact Vl.use (hc K2 vs r2) hA o2 fun K3 v s3 h3 o3 r3=>done (h1.trans (h2.trans h3)) o3 r3
noncomputable def tRange : Ty (Int × Int):=⟨fun K v q=>∃ a t u w,v = .ref a ∧ K a = some { cls:=.type "range", data:=.fields #[.int q.1 t,.int q.2 u,.int 1 w] },fun hle h=>let ⟨a,t,u,w,e,k⟩:=h; ⟨a,t,u,w,e,hle _ _ k⟩⟩
theorem cal_range1 {i : Int} : Cal G n (.type "range") [⟨tInt,i⟩] mu tRange (0,i) mu:=fun K vs hv nu A s hA hs=>by
 obtain ⟨v,r,rfl,⟨t,rfl⟩,hr⟩:=All2.cons_right hv
 have:=hr.nil_right; subst this
 refine call_range_1 ?_
 have o:=(hs.push { cls:=.type "range", data:=.fields #[.int 0 s.toks,.int i t,.int 1 (s.toks + 1)] }).toks (s.toks + 1 + 1) (by show s.toks ≤ _; lia)
 exact ⟨_,mu,kput_le hs.fresh,o,rfl,_,_,_,_,rfl,kput_self ..⟩
theorem cal_range2 {i j : Int} : Cal G n (.type "range") [⟨tInt,i⟩,⟨tInt,j⟩] mu tRange (i,j) mu:=fun K vs hv nu A s hA hs=>by
 obtain ⟨v,r,rfl,⟨t,rfl⟩,hr⟩:=All2.cons_right hv
 obtain ⟨v',r',rfl,⟨u,rfl⟩,hr'⟩:=All2.cons_right hr
 have:=hr'.nil_right; subst this
 refine call_range_2 ?_
 have o:=(hs.push { cls:=.type "range", data:=.fields #[.int i t,.int j u,.int 1 s.toks] }).toks (s.toks + 1) (by show s.toks ≤ _; lia)
 exact ⟨_,mu,kput_le hs.fresh,o,rfl,_,_,_,_,rfl,kput_self ..⟩
noncomputable def intRange (a b : Int) : List Int:=(List.range (b - a).toNat).map fun (i : Nat)=>a + (i : Int)
noncomputable def rRange (it : Addr) (x left : Int) : Res:=rObj it { cls:=.type "range_iterator", dict:=none,data:=.fields #[rawInt x,rawInt left,rawInt 1],slots:=#[] }
theorem it_range {t : Expr} {it : Addr} {a b : Int} (ht : ∀ v,letOwnedTupleGo t (.ref it) v = pure ()) : ItR G K t tInt it (intRange a b) (fun k=>[rRange it (a + k) (((b - a).toNat : Int) - k)]) [] where
 item:=fun n K' k x hle hx nu A s hA hs=>by
  obtain ⟨o,e,rfl⟩:=hs.get (r:=rRange it (a + k) (((b - a).toNat : Int) - k)) List.mem_cons_self
  have hk : k < (b - a).toNat:=by have:=(List.getElem?_eq_some_iff.mp hx).1; simpa [intRange] using this
  have hx' : x = a + k:=by
   unfold intRange at hx
   rw [List.getElem?_map,List.getElem?_range hk] at hx
   simpa using hx.symm
  refine wpAny_pyNext_range_item (x:=a + k) (left:=((b - a).toNat : Int) - k) e (by lia) fun h' hi hs'=>?_
  have e1 : a + (k : Int) + 1 = a + ((k + 1 : Nat) : Int):=by lia
  have e2 : ((b - a).toNat : Int) - k - 1 = ((b - a).toNat : Int) - ((k + 1 : Nat) : Int):=by lia
  rw [e1,e2] at hi
  refine ⟨K',[rRange it (a + ((k + 1 : Nat) : Int)) (((b - a).toNat : Int) - ((k + 1 : Nat) : Int))],.refl _,Own.change (t:=s.toks + 1) (r':=rRange it (a + ((k + 1 : Nat) : Int)) (((b - a).toNat : Int) - ((k + 1 : Nat) : Int))) hs rfl hs' hi rfl,_,rfl,⟨_,by rw [hx']⟩,?_⟩
  rw [ht]
  exact Tri.pure rfl
 stop:=fun n K' hle nu A s hA hs=>by
  obtain ⟨o,e,rfl⟩:=hs.get (r:=rRange it (a + ((intRange a b).length : Nat)) (((b - a).toNat : Int) - ((intRange a b).length : Nat))) List.mem_cons_self
  have hl : (intRange a b).length = (b - a).toNat:=by simp [intRange]
  refine wpAny_pyNext_range_end hA.1 e (by lia) fun h' hx=>?_
  exact ⟨K',[],.refl _,Own.drop (s':={ s with heap:=h' }) hs hx rfl rfl,rfl,rfl⟩
 self:=fun n K' k hle hkx nu A s hA hs=>by
  obtain ⟨o,e,rfl⟩:=hs.get (r:=rRange it (a + k) (((b - a).toNat : Int) - k)) List.mem_cons_self
  exact wpAny_pyIter_rangeiter e ⟨K',_,.refl _,hs,rfl,rfl⟩
theorem EvIt.range {t : Expr} {a b : Int} (h : Ev G n env mu e tRange (a,b) mu₁) (ha : -(2 ^ 62) ≤ a) (ha' : a < 2 ^ 62) (hb : -(2 ^ 62) ≤ b) (hb' : b < 2 ^ 62) (ht : ∀ it v,letOwnedTupleGo t it v = pure ():=by intro _ _; rfl) : EvIt G n env mu e t tInt (intRange a b) mu₁ []:=fun K=>(h K).mono fun K1 mu1 v _ ⟨e1,r1⟩=>by
 subst e1
 obtain ⟨c,u,w,q,rfl,hk⟩:=r1
 intro nu A s hA hs
 refine wpAny_pyIter_range (a:=a) (b:=b) (c:=1) (hs.k _ _ hk) (small_one ha ha' hb hb') ?_
 rw [rangeSize_one]
 have e : (if a < b then b - a else 0) = ((b - a).toNat : Int) - ((0 : Nat) : Int):=by split <;> lia
 have e' : a = a + ((0 : Nat) : Int):=by lia
 rw [e]
 refine ⟨K1,rRange s.heap.objs.size (a + ((0 : Nat) : Int)) (((b - a).toNat : Int) - ((0 : Nat) : Int)) :: mu1,.refl _,?_,s.heap.objs.size,(fun k=>[rRange s.heap.objs.size (a + k) (((b - a).toNat : Int) - k)]),rfl,rfl,it_range fun v=>ht _ v⟩
 exact hs.pushOwned { cls:=.type "range_iterator", data:=.fields #[rawInt a,rawInt (((b - a).toNat : Int) - ((0 : Nat) : Int)),rawInt 1] } (rRange s.heap.objs.size (a + ((0 : Nat) : Int)) (((b - a).toNat : Int) - ((0 : Nat) : Int))) rfl (by rw [← e']; rfl)
end
section
variable {G : Gl} {n : Nat} {env : Env} {mu mu₁ mu₂ mu₃ nu rest last : List Res} {K : KH} {A : Around} {s : Shared} {E : Value → Shared → Prop} {α β γ : Type} {T : Ty α} {x : α} {U : Ty β} {y : β} {V : Ty γ} {z : γ} {e l r : Expr} {pos p : Pos} {xs : List α} {es : List Expr} {ts : List TV}
 {ln cn fn gn : List Str} {rho ka : List (Option TV)} {ca : List Addr} {id : Str} {st : Stmt} {ss : List Stmt} {sc : Scope}
noncomputable def St1 (G : Gl) (n : Nat) (env : Env) (mu : List Res) (nm : Str) {α : Type} (T : Ty α) (x : α) (mu' : List Res) : Prop:=∀ K v,T.rel K v x → Tri G n K mu (storeName env nm v) fun _ mu'' _=>mu'' = mu'
theorem St1.loc (F : FEnv env ln cn ca gn) {i : Nat} (h1 : ln[i]? = some id) (hi : i < rho.length:=by decide) : St1 G n env (VS env.locals ln rho ca ka ++ rest) id T x (VS env.locals ln (rho.set i (some ⟨T,x⟩)) ca ka ++ rest):=fun K v hr nu A s hA hs =>
 store_loc F h1 hi hr hs fun s' hs'=>⟨K,_,.refl K,hs',rfl⟩
theorem St1.cel (F : FEnv env ln cn ca gn) {i : Nat} {c : Addr} (h1 : cn[i]? = some id) (h2 : ca[i]? = some c) (hi : i < ka.length:=by decide) : St1 G n env (VS env.locals ln rho ca ka ++ rest) id T x (VS env.locals ln rho ca (ka.set i (some ⟨T,x⟩)) ++ rest):=fun K v hr nu A s hA hs =>
 store_cel F h1 h2 hi hr hs fun s' hs'=>⟨K,_,.refl K,hs',rfl⟩
noncomputable def BRel (K : KH) (binds : List (Str × Value)) (ps : List (Str × TV)) : Prop:=All2 (fun (b : Str × Value) (q : Str × TV)=>b.1 = q.1 ∧ q.2.T.rel K b.2 q.2.x) binds ps
theorem BRel.mono {K K' : KH} (hle : KLe K K') {bs : List (Str × Value)} {ps : List (Str × TV)} (h : BRel K bs ps) : BRel K' bs ps:=All2.mono (fun _ q ⟨a,b⟩=>⟨a,q.2.T.mono hle b⟩) h
theorem BRel.zip : ∀ {nms : List Str} {vs : List Value} {ts : List TV},ARel K vs ts → nms.length = ts.length → BRel K (nms.zip vs) (nms.zip ts):=by
 intro nms
 induction nms with
 | nil=>intro vs ts h hl; cases ts with
  | nil=>have:=All2.nil_right h; subst this; exact trivial
  | cons _ _=>simp at hl
 | cons nm nms ih=>intro vs ts h hl; cases ts with
  | nil=>simp at hl
  | cons t ts =>
   obtain ⟨v,vs',rfl,h1,h2⟩:=All2.cons_right h
   exact ⟨⟨rfl,h1⟩,ih h2 (by simpa using hl)⟩
inductive Bd (G : Gl) (n : Nat) (env : Env) : List Res → List (Str × TV) → List Res → Prop
 | nil {m₁ : List Res} : Bd G n env m₁ [] m₁
 | cons {m₁ m₂ m₃ : List Res} {nm : Str} {tv : TV} {ps : List (Str × TV)} : St1 G n env m₁ nm tv.T tv.x m₂ → Bd G n env m₂ ps m₃ → Bd G n env m₁ ((nm,tv) :: ps) m₃
theorem Bd.run {ps : List (Str × TV)} (h : Bd G n env mu ps mu₁) : ∀ {K : KH} {s : Shared} {bs : List (Str × Value)} {Q : PUnit → Shared → Prop},BRel K bs ps → Room n A → Own G K (mu ++ nu) s → (∀ K' s',KLe K K' → Own G K' (mu₁ ++ nu) s' → Q ⟨⟩ s') →
  wpAny G.M A (forIn bs PUnit.unit fun (x : Str × Value) (_ : PUnit)=>do storeName env x.1 x.2; pure (ForInStep.yield PUnit.unit)) Q E s:=by
 induction h with
 | nil =>
  intro K s bs Q hb hA hs hq
  have:=hb.nil_right; subst this
  rw [List.forIn_nil]
  exact wpAny_pure (hq K s (.refl K) hs)
 | cons h1 _ ih =>
  intro K s bs Q hb hA hs hq
  obtain ⟨⟨nm',v⟩,bs',rfl,⟨e,hr⟩,hb'⟩:=All2.cons_right hb
  have e : nm' = _:=e
  subst e
  rw [List.forIn_cons]
  refine wpAny_bind (wpAny_bind (Tri.use (h1 K v hr) hA hs fun K1 mu1 _ s1 q1 o1 e1=>wpAny_pure ?_))
  subst e1
  exact ih (BRel.mono q1 hb') hA o1 fun K2 s2 q2 o2=>hq K2 s2 (q1.trans q2) o2
noncomputable def fOut {α : Type} (T : Ty α) (x : α) (mu : List Res) : Flow → KH → List Res → Prop:=fun f K mu'=>T.rel K (match f with | .ret v=>v | _=>.none) x ∧ ∃ rest,mu'.Perm (mu ++ rest)
theorem fOut.ret (h : Ev G n env mu e T x mu₁) (hp : mu₁.Perm (mu₂ ++ rest)) : ExS G n env mu (.Return (some e) pos) (fOut T x mu₂):=(ExS.ret h).mono fun f K mu' ⟨v,e1,e2,hr⟩=>by subst e1 e2; exact ⟨hr,rest,hp⟩
noncomputable def fOutP (G : Gl) (P : KH → Value → List Res → Prop) : Flow → KH → List Res → Prop:=fun f K mu'=>∃ mu'',Wk G mu' mu'' ∧ P K (match f with | .ret v=>v | _=>.none) mu''
theorem fOut.toP {f : Flow} {mu' : List Res} (h : fOut T x mu f K mu') : fOutP G (fun K v mu'=>mu' = mu ∧ T.rel K v x) f K mu':=by
 obtain ⟨h1,rest,hp⟩:=h
 exact ⟨mu,(Wk.perm hp).trans (Wk.sub (List.sublist_append_left _ _)),rfl,h1⟩
structure FnOk (G : Gl) (f : Addr) (fd : FuncData) (body : List Stmt) (ln cn gn : List Str) : Prop where
 top : TopF G
 ne : f ≠ G.TB ∧ f ≠ cStatics
 at' : ∃ o,G.H.get? f = some o ∧ o.data = .func fd
 body : fd.body = .stmts body
 code : ∃ c o vs t,fd.code = .ref c ∧ (c ≠ G.TB ∧ c ≠ cStatics) ∧ G.H.get? c = some o ∧ o.data = .fields vs ∧ vs[1]? = some (.str fd.qualname t)
 glob : fd.globals = mainGlobals
 blt : fd.builtins = builtinsNs
 clo : fd.closure = []
 cs : CSc fd.scope ln cn [] gn
 co : fd.scope.isCoroutine = false
 gen : fd.scope.isGenerator = false
noncomputable def bindF (qn : Str) (P : Arguments) (D KD : Value) (args : Args) : Sem (List (Str × Value)):=bindArgs ⟨qn,qn,P,.stmts [],⟨.function,[],false,false,[]⟩,0,[],D,KD,.none,.none,none,.none,.none,0⟩ args
theorem bindF_eq (fd : FuncData) (args : Args) : bindArgs fd args = bindF fd.qualname fd.params fd.defaults fd.kwdefaults args:=rfl
theorem Own.codeRec {fd : FuncData} (h : Own G K mu s) (hc : ∃ c o vs t,fd.code = .ref c ∧ (c ≠ G.TB ∧ c ≠ cStatics) ∧ G.H.get? c = some o ∧ o.data = .fields vs ∧ vs[1]? = some (.str fd.qualname t)) : s.heap.CodeRec fd.code fd.qualname:=by
 obtain ⟨c,o,vs,t,a,b,d,e,f⟩:=hc
 exact ⟨c,o,vs,t,a,h.k _ _ (h.old _ _ b.1 b.2 d),e,f⟩
theorem fn_runX {f : Addr} {fd : FuncData} {body : List Stmt} {args : Args} {ps : List (Str × TV)} {P : KH → Value → List Res → Prop} {R : Result → Shared → Prop} (h : FnOk G f fd body ln cn gn) (hA : Room (n + 1) A) (hs : Own G K (mu ++ nu) s)
  (hb : Tri G n K mu (bindArgs fd args) fun K1 mu1 bs=>mu1 = mu₁ ∧ BRel K1 bs ps)
  (hst : ∀ env ca,FEnv env ln cn ca gn → ca.length = cn.length → Bd G n env (VS env.locals ln (blank ln.length) ca (blank cn.length) ++ mu₁) ps (VS env.locals ln rho ca ka ++ mu₁))
  (hbd : ∀ env ca,FEnv env ln cn ca gn → ca.length = cn.length → env.func = some f → env.code = fd.code → Ex G n env (VS env.locals ln rho ca ka ++ mu₁) body (fOutP G P))
  (hR : ∀ K' mu' v s',KLe K K' → Own G K' (mu' ++ nu) s' → P K' v mu' → R (.ok (.ret v)) s') : codeAny G.M A (.call (.ref f) args) R s:=by
 obtain ⟨o,ho,hd⟩:=h.at'
 refine codeAny_call_function hA.depth (hs.k _ _ (hs.old _ _ h.ne.1 h.ne.2 ho)) hd h.co h.gen h.body (hs.codeRec h.code) ?_
 refine Tri.use hb hA.in1 hs fun K1 mu1 bs s1 h1 o1 ⟨e1,hr1⟩=>?_
 subst e1
 rw [h.clo,h.glob,h.blt]
 simp only [newFunctionEnv,Option.isSome_none,Bool.false_eq_true,if_false]
 refine wpAny_bind (wpAny_alloc ?_)
 have o2:=o1.pushOwned { cls:=.type "frame", data:=.dict #[] } (rFrame s1.heap.objs.size ln (blank ln.length)) rfl ⟨fun _=>none,⟨#[],0,rfl,fun _ he=>by simp at he,fun _=>rfl⟩,fun i nm tv _ ht=>by
  unfold blank at ht
  rw [List.getElem?_replicate] at ht
  split at ht <;> simp at ht⟩
 generalize hC : s1.heap.objs.size = C at o2 ⊢
 generalize hs2 : ({ s1 with heap:=s1.heap.push { cls:=.type "frame", data:=.dict #[] } } : Shared) = s2 at o2 ⊢
 have hsz2 : s2.heap.objs.size = C + 1:=by rw [← hs2,← hC]; exact Heap.size_push ..
 refine wpAny_bind (wpAny_layCells _ (fun name kind cells=>by cases hkc : kind == NameKind.cell <;> simp) _ _ _ _ ?_)
 have o3:=own_cells fd.scope.names s2 _ o2
 rw [hsz2] at o3 ⊢
 generalize hs3 : ({ s2 with heap:=pushCells s2.heap fd.scope.names } : Shared) = s3 at o3 ⊢
 try dsimp only
 generalize hce : ({ scope:=fd.scope,locals:=C,globals:=mainGlobals,cells:=cellsFrom (C + 1) fd.scope.names [],qual:=fd.qualname ++ ".<locals>.", func:=some f,code:=fd.code,frame:=some C,builtins:=builtinsNs } : Env) = env
 let ca:=List.range' (C + 1) (cellNames fd.scope.names).length
 have cs:=h.cs
 have hlen : ca.length = cn.length:=by show (List.range' ..).length = _; rw [List.length_range',cs.cel]
 have FE : FEnv env ln cn ca gn:=by
  refine ⟨?_,?_,?_,?_,?_,?_,?_,cs.lnd,?_⟩
  ·subst hce; exact cs.kind
  ·subst hce; rfl
  ·subst hce; rfl
  ·subst hce; exact fun nm hm=>cs.loc nm hm
  ·subst hce; exact fun nm hm=>lookup_of_mem cs.nd (mem_cellNames (cs.cel ▸ hm))
  ·intro i nm c h1 h2
   subst hce
   have : ca[i]? = some (C + 1 + i):=by
    show (List.range' (C + 1) (cellNames fd.scope.names).length)[i]? = _
    rw [List.getElem?_range' (by have:=(List.getElem?_eq_some_iff.mp h1).1; rw [cs.cel] at this; exact this)]
    simp
   rw [this] at h2
   cases h2
   exact cellsFrom_at _ _ _ i nm cs.nd (cs.cel ▸ h1)
  ·subst hce; exact fun nm hm=>cs.gl nm hm
  ·intro nm hm
   refine cs.good nm ?_
   rcases List.mem_append.mp hm with h | h
   ·exact List.mem_append_left _ h
   ·rcases List.mem_append.mp h with h | h
    ·exact List.mem_append_right _ (List.mem_append_left _ h)
    ·exact List.mem_append_right _ (List.mem_append_right _ (List.mem_append_right _ h))
 have hloc : env.locals = C:=by subst hce; rfl
 have o4 : Own G K1 (VS env.locals ln (blank ln.length) ca (blank cn.length) ++ mu1 ++ nu) s3:=by
  refine o3.perm ?_
  have e : cells0 (C + 1) (cellNames fd.scope.names).length = List.zipWith rC ca (blank cn.length):=by
   rw [cs.cel]; rfl
  rw [e,hloc]
  unfold VS
  rw [List.append_assoc]
  exact List.perm_middle
 refine wpAny_bind ((hst env ca FE hlen).run hr1 hA.in1 o4 fun K5 s5 h5 o5=>wpAny_pure ⟨o5.nolim h.top,?_⟩)
 refine codeAny_func ?_
 refine (hbd env ca FE hlen (by subst hce; rfl) (by subst hce; rfl)).use (hA.deeper env) o5 fun K6 mu6 fl s6 h6 o6 ⟨mu7,hw,hr⟩=>?_
 exact hR K6 mu7 _ s6 (h1.trans (h5.trans h6)) (hw K6 nu s6 o6) hr
noncomputable def Gl.chill (G : Gl) : Gl:={ G with cold:=true }
theorem Own.warm {s : Shared} (h : Own G.chill K mu s) (hp : 0 < s.toks) : Own G K mu s:=⟨h.k,h.old,h.led,h.off,h.nodup,h.gens,h.os,fun _=>hp,h.st,h.kst⟩
theorem fn_runW {f : Addr} {fd : FuncData} {body : List Stmt} {args : Args} {nm : Str} {v : Value} {i : Nat} {P : KH → Value → List Res → Prop} {R : Result → Shared → Prop} (h : FnOk G f fd body ln cn gn) (hA : Room (n + 1) A) (hs : Own G.chill K mu s)
  (hb : bindArgs fd args = pure [(nm,v)]) (hr : T.rel K v x) (hi : ln[i]? = some nm)
  (hbd : ∀ env ca,FEnv env ln cn ca gn → ca.length = cn.length → env.code = fd.code → Ex G n env (VS env.locals ln ((blank ln.length).set i (some ⟨T,x⟩)) ca (blank cn.length) ++ mu) body (fOutP G P))
  (hR : ∀ K' mu' v s',KLe K K' → Own G K' mu' s' → P K' v mu' → R (.ok (.ret v)) s') : codeAny G.M A (.call (.ref f) args) R s:=by
 obtain ⟨o,ho,hd⟩:=h.at'
 refine codeAny_call_function hA.depth (hs.k _ _ (hs.old _ _ h.ne.1 h.ne.2 ho)) hd h.co h.gen h.body (let ⟨c,o,vs,t,e1,e2,e3,e4,e5⟩:=h.code; ⟨c,o,vs,t,e1,hs.k _ _ (hs.old _ _ e2.1 e2.2 e3),e4,e5⟩) ?_
 rw [hb]
 refine wpAny_pure ?_
 rw [h.clo,h.glob,h.blt]
 simp only [newFunctionEnv,Option.isSome_none,Bool.false_eq_true,if_false]
 refine wpAny_bind (wpAny_alloc ?_)
 have o2:=hs.pushOwned { cls:=.type "frame", data:=.dict #[] } (rFrame s.heap.objs.size ln (blank ln.length)) rfl ⟨fun _=>none,⟨#[],0,rfl,fun _ he=>by simp at he,fun _=>rfl⟩,fun i nm tv _ ht=>by
  unfold blank at ht
  rw [List.getElem?_replicate] at ht
  split at ht <;> simp at ht⟩
 generalize hC : s.heap.objs.size = C at o2 ⊢
 generalize hs2 : ({ s with heap:=s.heap.push { cls:=.type "frame", data:=.dict #[] } } : Shared) = s2 at o2 ⊢
 have hsz2 : s2.heap.objs.size = C + 1:=by rw [← hs2,← hC]; exact Heap.size_push ..
 refine wpAny_bind (wpAny_layCells _ (fun name kind cells=>by cases hkc : kind == NameKind.cell <;> simp) _ _ _ _ ?_)
 have o3:=own_cells fd.scope.names s2 _ o2
 rw [hsz2] at o3 ⊢
 generalize hs3 : ({ s2 with heap:=pushCells s2.heap fd.scope.names } : Shared) = s3 at o3 ⊢
 try dsimp only
 generalize hce : ({ scope:=fd.scope,locals:=C,globals:=mainGlobals,cells:=cellsFrom (C + 1) fd.scope.names [],qual:=fd.qualname ++ ".<locals>.", func:=some f,code:=fd.code,frame:=some C,builtins:=builtinsNs } : Env) = env
 let ca:=List.range' (C + 1) (cellNames fd.scope.names).length
 have cs:=h.cs
 have hlen : ca.length = cn.length:=by show (List.range' ..).length = _; rw [List.length_range',cs.cel]
 have FE : FEnv env ln cn ca gn:=by
  refine ⟨?_,?_,?_,?_,?_,?_,?_,cs.lnd,?_⟩
  ·subst hce; exact cs.kind
  ·subst hce; rfl
  ·subst hce; rfl
  ·subst hce; exact fun nm hm=>cs.loc nm hm
  ·subst hce; exact fun nm hm=>lookup_of_mem cs.nd (mem_cellNames (cs.cel ▸ hm))
  ·intro i nm c h1 h2
   subst hce
   have : ca[i]? = some (C + 1 + i):=by
    show (List.range' (C + 1) (cellNames fd.scope.names).length)[i]? = _
    rw [List.getElem?_range' (by have:=(List.getElem?_eq_some_iff.mp h1).1; rw [cs.cel] at this; exact this)]
    simp
   rw [this] at h2
   cases h2
   exact cellsFrom_at _ _ _ i nm cs.nd (cs.cel ▸ h1)
  ·subst hce; exact fun nm hm=>cs.gl nm hm
  ·intro nm hm
   refine cs.good nm ?_
   rcases List.mem_append.mp hm with h | h
   ·exact List.mem_append_left _ h
   ·rcases List.mem_append.mp h with h | h
    ·exact List.mem_append_right _ (List.mem_append_left _ h)
    ·exact List.mem_append_right _ (List.mem_append_right _ (List.mem_append_right _ h))
 have hloc : env.locals = C:=by subst hce; rfl
 have o4 : Own G.chill K (VS env.locals ln (blank ln.length) ca (blank cn.length) ++ mu ++ []) s3:=by
  rw [List.append_nil]
  refine o3.perm ?_
  have e : cells0 (C + 1) (cellNames fd.scope.names).length = List.zipWith rC ca (blank cn.length):=by
   rw [cs.cel]; rfl
  rw [e,hloc]
  unfold VS
  exact List.perm_middle
 rw [List.forIn_cons]
 have hm:=List.mem_of_getElem? hi
 have hil : i < (blank ln.length).length:=by
  have:=(List.getElem?_eq_some_iff.mp hi).1
  unfold blank; rw [List.length_replicate]; exact this
 have st1 : wpAny G.M A.in1 (storeName env nm v) (fun _ s'=>Own G.chill K (VS env.locals ln ((blank ln.length).set i (some ⟨T,x⟩)) ca (blank cn.length) ++ mu ++ []) s' ∧ s3.toks < s'.toks) noE s3:=store_locT (G:=G.chill) FE hi hil hr o4 fun s' a b=>⟨a,b⟩
 refine wpAny_bind (wpAny_bind (wpAny_bind (wpAny_mono st1 (fun _ s5 ⟨o5,ht⟩=>wpAny_pure ?_) fun _ _ x=>x.elim)))
 have o5:=o5.warm (Nat.lt_of_le_of_lt (Nat.zero_le _) ht)
 rw [List.append_nil] at o5
 show wpAny _ _ (forIn [] PUnit.unit _) _ _ _
 rw [List.forIn_nil]
 refine wpAny_pure (wpAny_pure ⟨o5.nolim h.top,?_⟩)
 refine codeAny_func ?_
 refine (hbd env ca FE hlen (by subst hce; rfl)).use (nu:=[]) (hA.deeper env) (by rw [List.append_nil]; exact o5) fun K6 mu6 fl s6 h6 o6 ⟨mu7,hw,hr⟩=>?_
 have o7:=hw K6 [] s6 o6
 rw [List.append_nil] at o7
 exact hR K6 mu7 _ s6 h6 o7 hr
theorem fn_run {f : Addr} {fd : FuncData} {body : List Stmt} {args : Args} {ps : List (Str × TV)} {R : Result → Shared → Prop} (h : FnOk G f fd body ln cn gn) (hA : Room (n + 1) A) (hs : Own G K (mu ++ nu) s)
  (hb : Tri G n K mu (bindArgs fd args) fun K1 mu1 bs=>mu1 = mu₁ ∧ BRel K1 bs ps)
  (hst : ∀ env ca,FEnv env ln cn ca gn → ca.length = cn.length → Bd G n env (VS env.locals ln (blank ln.length) ca (blank cn.length) ++ mu₁) ps (VS env.locals ln rho ca ka ++ mu₁))
  (hbd : ∀ env ca,FEnv env ln cn ca gn → ca.length = cn.length → env.func = some f → env.code = fd.code → Ex G n env (VS env.locals ln rho ca ka ++ mu₁) body (fOut T x mu₂))
  (hR : ∀ K' v s',KLe K K' → Own G K' (mu₂ ++ nu) s' → T.rel K' v x → R (.ok (.ret v)) s') : codeAny G.M A (.call (.ref f) args) R s :=
 fn_runX h hA hs hb hst (fun env ca F hl e1 e2=>(hbd env ca F hl e1 e2).mono fun f K mu' q=>q.toP) fun K' mu' v s' hle ho ⟨e,hr⟩=>by subst e; exact hR K' v s' hle ho hr
theorem Cal.func {f : Addr} {fd : FuncData} {body : List Stmt} {ps : List (Str × TV)} (h : FnOk G f fd body ln cn gn)
  (hb : ∀ K vs,ARel K vs ts → Tri G n K mu (bindArgs fd ⟨vs,[]⟩) fun K1 mu1 bs=>mu1 = mu₁ ∧ BRel K1 bs ps)
  (hst : ∀ env ca,FEnv env ln cn ca gn → ca.length = cn.length → Bd G n env (VS env.locals ln (blank ln.length) ca (blank cn.length) ++ mu₁) ps (VS env.locals ln rho ca ka ++ mu₁))
  (hbd : ∀ env ca,FEnv env ln cn ca gn → ca.length = cn.length → env.func = some f → env.code = fd.code → Ex G n env (VS env.locals ln rho ca ka ++ mu₁) body (fOut T x mu₂)) : Cal G (n + 1) (.ref f) ts mu T x mu₂:=fun K vs hv nu A s hA hs =>
 wpAny_call (fn_run h hA hs (hb K vs hv) hst hbd fun K' v s' hle ho hr=>done hle ho hr)
theorem bind_plain {fd : FuncData} {nms : List Str} (hl : nms.length = ts.length) (h : ∀ vs : List Value,vs.length = ts.length → bindArgs fd ⟨vs,[]⟩ = pure (nms.zip vs)) : ∀ K vs,ARel K vs ts → Tri G n K mu (bindArgs fd ⟨vs,[]⟩) fun K1 mu1 bs=>mu1 = mu ∧ BRel K1 bs (nms.zip ts):=fun K vs hv=>by
 rw [h vs (All2.length hv)]
 exact Tri.pure ⟨rfl,BRel.zip hv hl⟩
end
section
variable {G : Gl} {n : Nat} {env : Env} {mu mu₁ mu₂ mu₃ nu rest last : List Res} {K : KH} {A : Around} {s : Shared} {E : Value → Shared → Prop} {α β γ : Type} {T : Ty α} {x : α} {U : Ty β} {y : β} {V : Ty γ} {z : γ} {e l r o : Expr} {pos p apos : Pos} {xs ys : List α} {es : List Expr} {ts : List TV} {name : Str}
theorem EvA.args' {f : Value} (h : EvA G n env mu pos es ts mu₁) (hp : (backTo pos (starEach es env)).any (·.1) = false) : ∀ K,Tri G n K mu (evalArgs f true (backTo pos (starEach es env)) []) fun K' mu'' a=>mu'' = mu₁ ∧ ∃ vs,a = ⟨vs,[]⟩ ∧ ARel K' vs ts:=fun K nu A s hA hs=>by
 have q:=h K
 cases hb : backTo pos (starEach es env) with
 | nil =>
  rw [hb] at q
  unfold evalArgs
  show wpAny G.M A (spliced [] >>= _) _ _ s
  refine wpAny_bind (Tri.use q hA hs fun K1 mu1 vs s1 h1 o1 ⟨e1,r1⟩=>?_)
  subst e1
  refine wpAny_holding ?_
  exact wpAny_bind (wpAny_pure (wpAny_bind (wpAny_pure (wpAny_pure ⟨K1,mu1,h1,o1,rfl,vs,rfl,r1⟩))))
 | cons a r =>
  obtain ⟨st,t⟩:=a
  have hst : st = false:=by rw [hb] at hp; simp at hp; exact hp.1
  subst hst
  refine Calls.evalArgs_plain ?_
  rw [← hb]
  exact Tri.use (h K) hA hs fun K1 mu1 vs s1 h1 o1 ⟨e1,r1⟩=>by subst e1; exact ⟨K1,mu1,h1,o1,rfl,vs,rfl,r1⟩
noncomputable def Mth (G : Gl) {α : Type} (T : Ty α) (x : α) (name : Str) (f : Value) : Prop:=∀ (K : KH) (mu : List Res) (v : Value) (A : Around) (s : Shared) (pl : Sem Bool) (Q : Value × List Value → Shared → Prop) (E : Value → Shared → Prop),T.rel K v x → Own G K mu s → Q (f,[v]) s → wpAny G.M A (getMethod v name pl) Q E s
theorem Ev.methB {id : String} (ho : Ev G n env mu o T x mu₁) (hm : Mth G T x name (.builtin id)) (ha : EvA G n env mu₁ pos es ts mu₂) (hc : Cal G n (.builtin id) (⟨T,x⟩ :: ts) mu₂ U y mu₃)
  (hp : (backTo pos (starEach es env)).any (·.1) = false:=by rfl) {pl : Sem Bool}
  (he : eval (.Call (.Attribute o name apos) es [] pos) env = (do
   let ov ← eval o env
   standAt apos.atName
   let (f,first) ← holding [ov] (getMethod ov name pl)
   callWith pos f first (backTo pos (starEach es env)) (backToKw pos (keywordEach [] env))):=by rfl) : Ev G n env mu (.Call (.Attribute o name apos) es [] pos) U y mu₃:=fun K nu A s hA hs =>
 methodCall_KW (ho.use hA hs fun K1 v s1 h1 o1 r1=>hm K1 _ v A s1 pl _ _ r1 o1 (Calls.callWith_builtin hp (Tri.use (ha.args' hp K1) hA o1 fun K2 mu2 a s2 h2 o2 ⟨e2,vs,e3,r2⟩=>by
  subst e2 e3
  exact Vl.use (hc K2 (v :: vs) ⟨T.mono h2 r1,r2⟩) hA o2 fun K3 v s3 h3 o3 r3=>done (h1.trans (h2.trans h3)) o3 r3))) he
theorem Tri.ofToks {t : Sem Value} (h : ∀ A s,Room n A → (∀ b o,K b = some o → s.heap.get? b = some o) → wpAny G.M A t (fun v s'=>(∃ tk,s' = { s with toks:=tk }) ∧ T.rel K v x) noE s) : Vl G n K mu t T x mu:=fun nu A s hA hs =>
 wpAny_mono (wpAny_toks (h A s hA hs.k)) (fun v s' ⟨ht,⟨tk,e⟩,hr⟩=>by subst e; exact done (.refl K) (hs.toks tk ht) hr) fun _ _ x=>x.2
theorem all2_strs : ∀ {vs : List Value} {ss : List Str},All2 (tStr.rel K) vs ss → StrsAre vs ss
 | [],[],_=>.nil
 | _ :: _,_ :: _,⟨⟨t,e⟩,h⟩=>by subst e; exact .cons _ t (all2_strs h)
theorem strs_all2 : ∀ {vs : List Value} {ss : List Str},StrsAre vs ss → All2 (tStr.rel K) vs ss
 | _,_,.nil=>trivial
 | _,_,.cons _ t h=>⟨⟨t,rfl⟩,strs_all2 h⟩
theorem mth_str {name : Str} {id : String} {a : Str} (slot : Slot "str" name id) (ty : typeOf (.builtin id) = pure (.type "method_descriptor")) : Mth G tStr a name (.builtin id):=fun K mu v A s pl Q E ⟨t,e⟩ hs h=>by
 subst e
 with_reducible exact GM.of (.str a t) (typeIs_str _ _ _) slot ty GM.noRef h
theorem cal_join {a : Str} {ss : List Str} (hok : (ss.map (·.length)).sum + ss.length * a.length ≤ 16777216) : Cal G n (.builtin "str.join") [⟨tStr,a⟩,⟨tList tStr,ss⟩] mu tStr (Txt.join a ss) mu:=fun K vs hv=>by
 obtain ⟨v,r,rfl,⟨t,rfl⟩,hr⟩:=All2.cons_right hv
 obtain ⟨w,r',rfl,⟨c,ws,m,rfl,hk,hw⟩,hr'⟩:=All2.cons_right hr
 have:=hr'.nil_right; subst this
 have hw : All2 (tStr.rel K) ws ss:=hw
 have hw' : StrsAre ws.toArray.toList ss:=by simpa using all2_strs hw
 refine Tri.ofToks fun A s hA hkk=>?_
 refine join_list (x:=a) (t:=t) (ys:=ss) (isList_of (hkk _ _ hk)) hw' ?_ fun t' k=>⟨⟨k,rfl⟩,t',rfl⟩
 exact hok
theorem Ev.join {a : Str} {ss : List Str} (ho : Ev G n env mu o tStr a mu₁) (ha : Ev G n env mu₁ e tLS ss mu₂) (hok : (ss.map (·.length)).sum + ss.length * a.length ≤ 16777216)
  (hst : starEach [e] env = [(false,eval e env)]:=by rfl) {pl : Sem Bool} (he : eval (.Call (.Attribute o "join" apos) [e] [] pos) env = (do
   let ov ← eval o env
   standAt apos.atName
   let (f,first) ← holding [ov] (getMethod ov "join" pl)
   callWith pos f first (backTo pos (starEach [e] env)) (backToKw pos (keywordEach [] env))):=by rfl) : Ev G n env mu (.Call (.Attribute o "join" apos) [e] [] pos) tStr (Txt.join a ss) mu₂ :=
 ho.methB (mth_str F.slot_str_join F.type_str_join) (.cons ha .nil hst) (cal_join hok) (by rw [hst]; rfl) he
theorem cal_lower {a : Str} (hz : a.length ≤ 5592405) : Cal G n (.builtin "str.lower") [⟨tStr,a⟩] mu tStr (Txt.lower a) mu:=fun K vs hv=>by
 obtain ⟨v,r,rfl,⟨t,rfl⟩,hr⟩:=All2.cons_right hv
 have:=hr.nil_right; subst this
 exact Tri.ofToks fun A s hA hkk=>SCL.lower hz fun _=>⟨⟨_,rfl⟩,_,rfl⟩
theorem cal_startswith {a b : Str} : Cal G n (.builtin "str.startswith") [⟨tStr,a⟩,⟨tStr,b⟩] mu tBool (Txt.startswith a b) mu:=fun K vs hv=>by
 obtain ⟨v,r,rfl,⟨t,rfl⟩,hr⟩:=All2.cons_right hv
 obtain ⟨w,r',rfl,⟨u,rfl⟩,hr'⟩:=All2.cons_right hr
 have:=hr'.nil_right; subst this
 exact Tri.ofToks fun A s hA hkk=>SC.startswith ⟨⟨_,rfl⟩,rfl⟩
theorem cal_rfind {a b : Str} : Cal G n (.builtin "str.rfind") [⟨tStr,a⟩,⟨tStr,b⟩] mu tInt (Txt.rfind a b) mu:=fun K vs hv=>by
 obtain ⟨v,r,rfl,⟨t,rfl⟩,hr⟩:=All2.cons_right hv
 obtain ⟨w,r',rfl,⟨u,rfl⟩,hr'⟩:=All2.cons_right hr
 have:=hr'.nil_right; subst this
 exact Tri.ofToks fun A s hA hkk=>SC.rfind ⟨⟨_,rfl⟩,_,rfl⟩
theorem Ev.str0 {name : Str} {id : String} {a : Str} (slot : Slot "str" name id) (ty : typeOf (.builtin id) = pure (.type "method_descriptor")) (ho : Ev G n env mu o tStr a mu₁) (hc : Cal G n (.builtin id) [⟨tStr,a⟩] mu₁ U y mu₁)
  {pl : Sem Bool} (he : eval (.Call (.Attribute o name apos) [] [] pos) env = (do
   let ov ← eval o env
   standAt apos.atName
   let (f,first) ← holding [ov] (getMethod ov name pl)
   callWith pos f first (backTo pos (starEach [] env)) (backToKw pos (keywordEach [] env))):=by rfl) : Ev G n env mu (.Call (.Attribute o name apos) [] [] pos) U y mu₁:=ho.methB (mth_str slot ty) .nil hc rfl he
theorem Ev.str1 {name : Str} {id : String} {a b : Str} (slot : Slot "str" name id) (ty : typeOf (.builtin id) = pure (.type "method_descriptor")) (ho : Ev G n env mu o tStr a mu₁) (ha : Ev G n env mu₁ e tStr b mu₂) (hc : Cal G n (.builtin id) [⟨tStr,a⟩,⟨tStr,b⟩] mu₂ U y mu₂)
  (hst : starEach [e] env = [(false,eval e env)]:=by rfl) {pl : Sem Bool} (he : eval (.Call (.Attribute o name apos) [e] [] pos) env = (do
   let ov ← eval o env
   standAt apos.atName
   let (f,first) ← holding [ov] (getMethod ov name pl)
   callWith pos f first (backTo pos (starEach [e] env)) (backToKw pos (keywordEach [] env))):=by rfl) : Ev G n env mu (.Call (.Attribute o name apos) [e] [] pos) U y mu₂:=ho.methB (mth_str slot ty) (.cons ha .nil hst) hc (by rw [hst]; rfl) he
theorem strValues_all2 {l : List (Str × Tok)} : All2 (tStr.rel K) (strValues l) (l.map (·.1)):=by
 induction l with
 | nil=>exact trivial
 | cons a r ih=>exact ⟨⟨_,rfl⟩,ih⟩
open PySem.Builtin PySem.Builtin.Str in
theorem split_push {a b : Str} {t u : Tok} {Q : Value → Shared → Prop} (hb : (b.length == 0) = false) (hz : a.length + 2 ≤ sizeLine)
  (h : ∀ l k,l.map (·.1) = Txt.split a b → Q (.ref s.heap.objs.size) { s with heap:=s.heap.push (listO (strValues l) 0),toks:=k }) : wpAny G.M A (call (.builtin "str.split") [.str a t,.str b u]) Q E s:=by
 have hn : (partsBetween a (occurrences a b 0 a.length (a.length + 1)) b.length).length ≤ sizeLine:=by
  rw [length_partsBetween]
  have:=StrLaws.occ_length_le a b 0 a.length (a.length + 1)
  lia
 by_cases h1 : (decide (a.length < b.length) || decide (strKind a < strKind b)) = true
 ·exact call_meets F.slot_str_split (typeIs_str _ _ _) F.entry_str_split (F.args_str_split_2 _ _) (meets_str_split_cannot_occur a b t u h1) (h [(a,t)] s.toks (if_pos h1).symm)
 ·have h1':=eq_false_of_ne_true h1
  by_cases hf : (occurrences a b 0 a.length (a.length + 1)).isEmpty = true
  ·exact call_meets F.slot_str_split (typeIs_str _ _ _) F.entry_str_split (F.args_str_split_2 _ _) (meets_str_split_not_found a b t u h1' hb hf) (h [(a,t)] s.toks ((if_neg h1).trans (if_pos hf)).symm)
  ·refine call_meets F.slot_str_split (typeIs_str _ _ _) F.entry_str_split (F.args_str_split_2 _ _) (meets_str_split_sep a b t u h1' hb (eq_false_of_ne_true hf) (by lia) hn) ?_
   show wants Q E _ { s with toks:=_,heap:=s.heap.push { cls:=.type "list", data:=.seq (strsFrom s.toks (partsBetween a (occurrences a b 0 a.length (a.length + 1)) b.length)).toArray } }
   rw [strsFrom_eq]
   exact h (numbered s.toks _) _ ((numbered_texts _ _).trans ((if_neg h1).trans (if_neg hf)).symm)
theorem cal_split {a b : Str} (hb : (b.length == 0) = false) (hz : a.length + 2 ≤ sizeLine) : Cal G n (.builtin "str.split") [⟨tStr,a⟩,⟨tStr,b⟩] mu tLS (Txt.split a b) mu:=fun K vs hv nu A s hA hs=>by
 obtain ⟨v,r,rfl,⟨t,rfl⟩,hr⟩:=All2.cons_right hv
 obtain ⟨w,r',rfl,⟨u,rfl⟩,hr'⟩:=All2.cons_right hr
 have:=hr'.nil_right; subst this
 refine wpAny_mono (wpAny_toks (split_push (G:=G) (A:=A) (E:=noE) (s:=s) (t:=t) (u:=u) hb hz (Q:=fun v s'=>s.toks ≤ s'.toks → ∃ K' mu',KLe K K' ∧ Own G K' (mu' ++ nu) s' ∧ mu' = mu ∧ tLS.rel K' v (Txt.split a b)) fun l k hl ht=>?_)) (fun _ _ x=>x.2 x.1) fun _ _ x=>x.2
 have o:=(hs.push (listO (strValues l) 0)).toks k ht
 refine ⟨_,mu,kput_le hs.fresh,o,rfl,_,strValues l,0,rfl,kput_self ..,?_⟩
 rw [← hl]
 exact strValues_all2
end
section
variable {G : Gl} {n : Nat} {env : Env} {mu mu₁ mu₂ mu₃ nu rest last W R : List Res} {K : KH} {A : Around} {s : Shared} {E : Value → Shared → Prop} {α β γ : Type} {T : Ty α} {x : α} {U : Ty β} {y : β} {V : Ty γ} {z : γ} {e l r o e' : Expr} {pos p apos : Pos} {xs ys : List α} {es : List Expr} {ts : List TV} {name : Str}
theorem part_val {v : Value} : ∀ {i : Option Int},IsPart v i → ∃ l : Option (Int × Tok),l.map (·.1) = i ∧ v = partValue l
 | _,.none=>⟨none,rfl,rfl⟩
 | _,.int i t=>⟨some (i,t),rfl,rfl⟩
theorem Ev.sliceS {a : Str} {lo hi : Option Expr} {i j : Option Int} (hl : Ev G n env mu l tStr a mu₁) (h1 : Prt G n env mu₁ lo i) (h2 : Prt G n env mu₁ hi j) (hz : a.length ≤ sizeLine) :
  Ev G n env mu (.Subscript l (.Slice lo hi none p) pos) tStr (Txt.slice a i j) mu₁:=fun K nu A s hA hs'=>by
 have key : ∀ {Q : Value → Shared → Prop},wpAny G.M A (eval l env) (fun o s₁=>wpAny G.M A (eval (.Slice lo hi none p) env) (fun i s₂=>wpAny G.M A (subscriptTail l (.Slice lo hi none p) o i) Q noE s₂) noE s₁) noE s → wpAny G.M A (eval (.Subscript l (.Slice lo hi none p) pos) env) Q noE s:=fun h=>Subscript_ h
 refine key (hl.use hA hs' fun K1 v s1 q1 o1 L1=>?_)
 refine wpAny_Slice (h1.use hA o1 fun K2 vl s2 q2 o2 p2=>h2.use hA o2 fun K3 vu s3 q3 o3 p3=>wpAny_evalPart_none ?_)
 obtain ⟨t,rfl⟩:=L1
 obtain ⟨lv,rfl,rfl⟩:=part_val p2
 obtain ⟨uv,rfl,rfl⟩:=part_val p3
 have o4:=o3.push { cls:=.type "slice", data:=.fields #[partValue lv,partValue uv,.none] }
 have fin : ∀ t' k,s3.toks ≤ k → ∃ K' mu',KLe K K' ∧ Own G K' (mu' ++ nu) { s3 with heap:=s3.heap.push { cls:=.type "slice", data:=.fields #[partValue lv,partValue uv,.none] },toks:=k } ∧ mu' = mu₁ ∧ tStr.rel K' (.str (Txt.slice a (lv.map (·.1)) (uv.map (·.1))) t') (Txt.slice a (lv.map (·.1)) (uv.map (·.1))):=fun t' k hk =>
  ⟨_,mu₁,q1.trans (q2.trans (q3.trans (kput_le o3.fresh))),o4.toks k hk,rfl,t',rfl⟩
 have lt:=Nat.le_trans (Txt.slice_le a (lv.map (·.1)) (uv.map (·.1))) hz
 refine wpAny_mono (wpAny_toks (tail_any (ops:=_) (Q:=fun v s'=>s3.toks ≤ s'.toks → ∃ K' mu',KLe K K' ∧ Own G K' (mu' ++ nu) s' ∧ mu' = mu₁ ∧ tStr.rel K' v (Txt.slice a (lv.map (·.1)) (uv.map (·.1)))) (E:=noE) (typeIs_str _ _ _) F.slot_str_getitem.lookup ?_ rfl)) (fun v s' ⟨ht,h⟩=>h ht) fun _ _ h=>h.2
 exact wpAny_getItem_str_slice (l:=lv) (u:=uv) (st:=none) ⟨_,Heap.get?_push_size _ rfl,rfl,rfl⟩ rfl (post_val_or_str ⟨lt,fun t' k ht=>fin t' k ht⟩)
noncomputable def strMul (a : Str) (k : Int) : Str:=if k < 1 then Str.empty else if (k == 1 || a.length == 0) = true then a else ⟨(List.replicate k.toNat a.cps).foldl (· ++ ·) #[]⟩
theorem Ev.mulS {a : Str} {k : Int} (hl : Ev G n env mu l tStr a mu₁) (hr : Ev G n env mu₁ r tInt k mu₂) (h1 : 0 ≤ k) (h2 : k ≤ 1000) (h3 : a.length ≤ 1000) (h4 : (strMul a k).length ≤ sizeLine) : Ev G n env mu (.BinOp l .Mult r pos) tStr (strMul a k) mu₂ :=
 hl.binop hr fun K v w ⟨t,ea⟩ ⟨u,eb⟩=>by
  subst ea eb
  refine .toks fun A s hA=>P.mul_str (by simp; lia) (fun _ _=>?_) (fun _ _=>?_) ?_
  ·have : (a.length : Int) ≤ (2 ^ 63 - 1) / k:=by
    refine Int.le_trans (show (a.length : Int) ≤ 1000 by lia) ((Int.le_ediv_iff_mul_le (by lia)).mpr ?_)
    have : 1000 * k ≤ 1000 * 1000:=Int.mul_le_mul_of_nonneg_left h2 (by decide)
    lia
   lia
  ·have : a.length * k.toNat ≤ 1000 * 1000:=Nat.mul_le_mul h3 (by lia)
   refine decide_eq_false ?_
   show ¬ _ > 2 ^ 24
   lia
  ·unfold strMul at h4 ⊢
   split
   ·rename_i q; rw [if_pos q] at h4; exact ⟨h4,⟨_,rfl⟩,_,rfl⟩
   ·rename_i q; rw [if_neg q] at h4
    split
    ·exact ⟨⟨_,rfl⟩,_,rfl⟩
    ·rename_i q'; rw [if_neg q'] at h4; exact ⟨h4,⟨_,rfl⟩,_,rfl⟩
theorem cal_lenL (hz : xs.length ≤ sizeLine) : Cal G n (.builtin "len") [⟨tList T,xs⟩] mu tInt (xs.length : Int) mu:=fun K vs hv=>by
 obtain ⟨v,r,rfl,⟨a,ws,m,rfl,hk,hw⟩,hr⟩:=All2.cons_right hv
 have:=hr.nil_right; subst this
 have hw : All2 (T.rel K) ws xs:=hw
 have hl:=hw.length
 have h24 : sizeLine = 2 ^ 24:=rfl
 refine Tri.ofToks fun A s hA hkk=>len_list (isList_of (hkk _ _ hk)) (by rw [List.size_toArray]; lia) ⟨⟨_,rfl⟩,s.toks + 1,by rw [List.size_toArray,hl]⟩
theorem cal_lenS {a : Str} (hz : a.length ≤ sizeLine) : Cal G n (.builtin "len") [⟨tStr,a⟩] mu tInt (a.length : Int) mu:=fun K vs hv=>by
 obtain ⟨v,r,rfl,⟨t,rfl⟩,hr⟩:=All2.cons_right hv
 have:=hr.nil_right; subst this
 have h24 : sizeLine = 2 ^ 24:=rfl
 have hz : a.length ≤ 2 ^ 24:=hz
 exact Tri.ofToks fun A s hA hkk=>P.len_str (x:=a) (by lia) ⟨⟨_,rfl⟩,_,rfl⟩
theorem listO_of {items : Array Value} {vs : List Value} {k : Nat} (h : items = vs.toArray) : ∃ n,({ cls:=.type "list", dict:=none,data:=.seq items k,slots:=#[] } : Obj) = listO vs n:=⟨k,by subst h; rfl⟩
theorem getM_list {a : Addr} {vs : List Value} {m : Nat} {id : String} {pl : Sem Bool} {Q : Value × List Value → Shared → Prop} (e : s.heap.get? a = some (listO vs m)) (slot : Slot "list" name id) (ty : typeOf (.builtin id) = pure (.type "method_descriptor")) (h : Q (.builtin id,[.ref a]) s) : wpAny G.M A (getMethod (.ref a) name pl) Q E s :=
 getMethod_builtin (typeIs_list e) F.plainAttrs_list slot ty (fun b hb=>by cases hb; exact ⟨_,e,rfl⟩) h
theorem Own.changeR {i : Nat} {r r' : Res} {h' : Heap} {o' : Obj} {t : Nat} (h : Own G K (W ++ R ++ nu) s) (hi : R[i]? = some r) (ha : r'.a = r.a) (hs : Heap.SameBut r.a s.heap h') (he : h'.get? r.a = some o') (hP : r'.P K o') (ht : s.toks ≤ t:=by lia) :
  Own G K (W ++ R.set i r' ++ nu) { s with heap:=h',toks:=t }:=by
 have hl : (W ++ R)[W.length + i]? = some r:=by rw [List.getElem?_append_right (by lia),Nat.add_sub_cancel_left]; exact hi
 have:=Own.changeAt (t:=t) h hl ha hs he hP ht
 rwa [List.set_append_right _ _ (by lia),Nat.add_sub_cancel_left] at this
theorem mem_R {i : Nat} {r : Res} (hi : R[i]? = some r) : r ∈ W ++ R ++ nu:=List.mem_append_left _ (List.mem_append_right _ (List.mem_of_getElem? hi))
theorem Ev.append {a : Addr} {i : Nat} (ho : Ev G n env mu o tVal (.ref a) (W ++ R)) (hx : Ev G n env (W ++ R) e T x (W ++ R)) (hi : R[i]? = some (rList a T xs)) (hz : xs.length ≤ sizeLine)
  (hst : starEach [e] env = [(false,eval e env)]:=by rfl) {pl : Sem Bool} (he : eval (.Call (.Attribute o "append" apos) [e] [] pos) env = (do
   let ov ← eval o env
   standAt apos.atName
   let (f,first) ← holding [ov] (getMethod ov "append" pl)
   callWith pos f first (backTo pos (starEach [e] env)) (backToKw pos (keywordEach [] env))):=by rfl) : Ev G n env mu (.Call (.Attribute o "append" apos) [e] [] pos) tNone () (W ++ R.set i (rList a T (xs ++ [x]))):=fun K nu A s hA hs =>
 methodCall_KW (ho.use hA hs fun K1 v s1 h1 o1 r1=>by
  have r1 : v = .ref a:=r1
  subst r1
  obtain ⟨ob,e1,vs,m,rfl,hv⟩:=o1.get (mem_R hi)
  refine getM_list e1 F.slot_list_append F.type_list_append ?_
  rw [hst]
  refine P.append_list (hx.use hA o1 fun K2 w s2 h2 o2 r2=>?_)
  obtain ⟨ob2,e2,vs2,m2,rfl,hv2⟩:=o2.get (mem_R hi)
  obtain ⟨mm,em⟩:=listO_of (items:=vs2.toArray.push w) (vs:=vs2 ++ [w]) (k:=if (vs2.toArray.push w).size == vs2.toArray.size then m2 else m2 + 1) (by simp)
  exact ⟨vs2.toArray,m2,by rw [List.size_toArray,hv2.length]; exact hz,e2,K2,_,h1.trans h2,Own.changeR (t:=s2.toks) (r':=rList a T (xs ++ [x])) o2 hi rfl (Heap.SameBut.update ..) (IsL.update e2 _) ⟨vs2 ++ [w],mm,em,hv2.snoc r2⟩,rfl,rfl⟩) he
theorem strOf_eq {v : Value} {q x : Str} {t : Tok} (h : tStr.rel K v q) : MeetsSeq.EqGives v (.str x t) (decide (q = x)):=by
 obtain ⟨u,rfl⟩:=h
 have:=SeqRoads2.EqGives.str q x u t
 rw [str_beq] at this; exact this
open Classical in
theorem Ev.indexS {a : Str} {ss : List Str} (ho : EvL G n env mu o tStr ss mu₁) (hx : Ev G n env mu₁ e tStr a mu₁) (hin : a ∈ ss) (hz : ss.length ≤ sizeLine)
  (hst : starEach [e] env = [(false,eval e env)]:=by rfl) {pl : Sem Bool} (he : eval (.Call (.Attribute o "index" apos) [e] [] pos) env = (do
   let ov ← eval o env
   standAt apos.atName
   let (f,first) ← holding [ov] (getMethod ov "index" pl)
   callWith pos f first (backTo pos (starEach [e] env)) (backToKw pos (keywordEach [] env))):=by rfl) : Ev G n env mu (.Call (.Attribute o "index" apos) [e] [] pos) tInt (ss.idxOf a : Int) mu₁:=fun K nu A s hA hs =>
 methodCall_KW (ho.use hA hs fun K1 v s1 h1 o1 L1=>by
  obtain ⟨c,rfl,L⟩:=L1
  obtain ⟨vs,m,e1,hv⟩:=L K1 nu s1 (.refl _) o1
  refine getM_list e1 F.slot_list_index F.type_list_index ?_
  rw [hst]
  refine P.index_list (hx.use hA o1 fun K2 w s2 h2 o2 r2=>?_)
  obtain ⟨t,rfl⟩:=r2
  obtain ⟨vs2,m2,e2,hv2⟩:=L K2 nu s2 h2 o2
  have hlt : ss.idxOf a < ss.length:=List.idxOf_lt_length_iff.mpr hin
  have hlen:=hv2.length
  have h24 : sizeLine = 2 ^ 24:=rfl
  have at' : ∀ (k : Nat) (hk : k < vs2.length),∃ q,ss[k]? = some q ∧ tStr.rel K2 vs2[k] q:=fun k hk=>hv2.getV (List.getElem?_eq_getElem hk)
  refine ⟨vs2.toArray,m2,fun v=>decide (∃ q,tStr.rel K2 v q ∧ q = a),ss.idxOf a,by simpa [hlen] using hlt,e2,fun y hy=>?_,by lia,?_,fun k hk hlt'=>?_,K2,mu₁,h1.trans h2,o2.toks _,rfl,_,rfl⟩
  ·have hy : y ∈ vs2:=by simpa using hy
   obtain ⟨k,hk,rfl⟩:=List.getElem_of_mem hy
   obtain ⟨q,hq,hr⟩:=at' k hk
   have : decide (∃ q',tStr.rel K2 vs2[k] q' ∧ q' = a) = decide (q = a):=decide_eq_decide.mpr ⟨fun ⟨q',h',e'⟩=>(det_str hr h').trans e',fun e'=>⟨q,hr,e'⟩⟩
   show MeetsSeq.EqGives _ _ (decide (∃ q',tStr.rel K2 vs2[k] q' ∧ q' = a))
   rw [this]
   exact strOf_eq hr
  ·obtain ⟨q,hq,hr⟩:=at' (ss.idxOf a) (by lia)
   rw [decide_eq_true_eq]
   refine ⟨q,by simpa using hr,?_⟩
   have:=List.getElem_idxOf hlt
   rw [List.getElem?_eq_getElem hlt] at hq
   exact (Option.some.inj hq).symm.trans this
  ·rw [decide_eq_false_iff_not]
   rintro ⟨q',h',rfl⟩
   have hk : k < vs2.length:=by simpa using hk
   obtain ⟨q,hq,hr⟩:=at' k hk
   have : q = q':=det_str hr (by simpa using h')
   subst this
   obtain ⟨hk',e'⟩:=List.getElem?_eq_some_iff.mp hq
   have:=List.not_of_lt_findIdx (xs:=ss) (p:=(· == q)) (i:=k) (by unfold List.idxOf at hlt'; exact hlt')
   rw [e'] at this
   simp at this) he
theorem Own.none_at (h : Own G K mu s) {a : Addr} (ha : s.heap.objs.size ≤ a) : s.heap.get? a = none:=by
 cases e : s.heap.get? a with
 | none=>rfl
 | some o=>exact absurd (Heap.lt_size e) (Nat.not_lt.mpr ha)
theorem ints_all2 : ∀ {vs : List Value} {ns : List Int},IntsAre vs ns → All2 (tInt.rel K) vs ns
 | _,_,.nil=>trivial
 | _,_,.cons _ t h=>⟨⟨t,rfl⟩,ints_all2 h⟩
theorem all2_ints : ∀ {vs : List Value} {ns : List Int},All2 (tInt.rel K) vs ns → IntsAre vs ns
 | [],[],_=>.nil
 | _ :: _,_ :: _,⟨⟨t,e⟩,h⟩=>by subst e; exact .cons _ t (all2_ints h)
theorem sorted_unique {ρ : α → α → Prop} (anti : ∀ a b,ρ a b → ρ b a → a = b) : ∀ {l l' : List α},l.Perm l' → l.Pairwise ρ → l'.Pairwise ρ → l = l'
 | [],l',p,_,_=>(List.nil_perm.mp p).symm
 | a :: l,[],p,_,_=>(List.Perm.nil_eq p.symm).symm
 | a :: l,b :: l',p,h,h'=>by
  rw [List.pairwise_cons] at h h'
  have e : a = b:=by
   rcases List.mem_cons.mp (p.mem_iff.mp List.mem_cons_self) with e | m
   ·exact e
   ·rcases List.mem_cons.mp (p.mem_iff.mpr (List.mem_cons_self (a:=b) (l:=l'))) with e | m'
    ·exact e.symm
    ·exact anti _ _ (h.1 b m') (h'.1 a m)
  subst e
  rw [sorted_unique anti (p.cons_inv) h.2 h'.2]
noncomputable def leS (a b : Str) : Prop:=Spec.ltCps b.cps.toList a.cps.toList = false
theorem leS_anti {a b : Str} (h : leS a b) (h' : leS b a) : a = b:=by
 unfold leS at h h'
 rw [ltCps_eq,decide_eq_false_iff_not] at h h'
 have : a.cps.toList = b.cps.toList:=List.le_antisymm h h'
 cases a; cases b; congr 1; exact Array.ext' this
theorem leS_trans {a b c : Str} (h : leS a b) (h' : leS b c) : leS a c:=by
 unfold leS at *
 rw [ltCps_eq,decide_eq_false_iff_not] at *
 exact List.le_trans h h'
theorem leS_total (a b : Str) : leS a b ∨ leS b a:=by
 unfold leS
 rw [ltCps_eq,ltCps_eq,decide_eq_false_iff_not,decide_eq_false_iff_not]
 exact List.le_total _ _
theorem pairwise_of_sortedS : ∀ {l : List Str},sortedS l = true → l.Pairwise leS
 | [],_=>.nil
 | x :: r,h=>by
  have key : ∀ (r : List Str) (x : Str),risingS x r = true → (x :: r).Pairwise leS:=by
   intro r
   induction r with
   | nil=>intro x _; exact .cons (fun _ h=>nomatch h) .nil
   | cons y r ih =>
    intro x h
    unfold risingS at h
    rw [Bool.and_eq_true,Bool.not_eq_true'] at h
    have hy:=ih y h.2
    refine .cons (fun q hq=>?_) hy
    rcases List.mem_cons.mp hq with rfl | hq
    ·exact h.1
    ·exact leS_trans h.1 ((List.pairwise_cons.mp hy).1 q hq)
  exact key r x h
noncomputable def sortS (ss : List Str) : List Str:=ss.mergeSort (fun a b=>!Spec.ltCps b.cps.toList a.cps.toList)
theorem sortS_perm (ss : List Str) : (sortS ss).Perm ss:=List.mergeSort_perm ..
theorem sortS_sorted (ss : List Str) : (sortS ss).Pairwise leS:=by
 have:=List.pairwise_mergeSort (le:=fun a b : Str=>!Spec.ltCps b.cps.toList a.cps.toList) (fun a b c h h'=>by
  rw [Bool.not_eq_true'] at *; exact leS_trans h h') (fun a b=>by
  rw [Bool.or_eq_true,Bool.not_eq_true',Bool.not_eq_true']; exact leS_total a b) ss
 exact this.imp fun h=>by rw [Bool.not_eq_true'] at h; exact h
theorem sortS_eq {l l' : List Str} (h : l.Perm l') : sortS l = sortS l':=sorted_unique (fun _ _=>leS_anti) ((sortS_perm l).trans (h.trans (sortS_perm l').symm)) (sortS_sorted l) (sortS_sorted l')
theorem cal_sortedS {ss : List Str} (hz : ss.length < 64) : Cal G n (.builtin "sorted") [⟨tList tStr,ss⟩] mu tLS (sortS ss) mu:=fun K vs hv nu A s hA hs=>by
 obtain ⟨v,r,rfl,⟨a,ws,m,rfl,hk,hw⟩,hr⟩:=All2.cons_right hv
 have:=hr.nil_right; subst this
 have hw : All2 (tStr.rel K) ws ss:=hw
 refine sorted_strs (isList_of (hs.k _ _ hk)) (all2_strs hw) (by rw [hw.length]; exact hz) fun out ss' hi hp hsd=>?_
 obtain ⟨e,he⟩:=sortedAll_at s.heap ws out
 obtain ⟨hk',o⟩:=hs.pushK (s':={ s with heap:=sortedAll s.heap ws out }) (fun _ _=>sortedAll_old) he (Nat.ne_of_gt (Nat.lt_succ_of_lt hs.slt)) (hs.none_at (by lia)) rfl rfl
 have : ss' = sortS ss:=sorted_unique (fun _ _=>leS_anti) (hp.trans (sortS_perm ss).symm) (pairwise_of_sortedS hsd) (sortS_sorted ss)
 subst this
 exact ⟨_,mu,kput_le hk',o,rfl,_,out.toList,e,rfl,kput_self ..,strs_all2 hi⟩
theorem cal_maxL {ns : List Int} {M : Int} (hm : M ∈ ns) (hM : ∀ a ∈ ns,a ≤ M) : Cal G n (.builtin "max") [⟨tList tInt,ns⟩] mu tInt M mu:=fun K vs hv nu A s hA hs=>by
 obtain ⟨v,r,rfl,⟨a,ws,m,rfl,hk,hw⟩,hr⟩:=All2.cons_right hv
 have:=hr.nil_right; subst this
 have hw : All2 (tInt.rel K) ws ns:=hw
 obtain ⟨xs,e⟩:=(all2_ints hw).allInts.items
 have hns : ns = xs.toList.map (·.1):=by rw [← (all2_ints hw).numsOf,← nums_intItems,← e]
 have hsz : 0 < xs.size:=by
  have:=List.length_pos_of_mem hm
  rw [hns,List.length_map,Array.length_toList] at this; exact this
 have hl:=isList_of (hs.k _ _ hk)
 rw [e] at hl
 refine wpAny_mono (wpAny_toks (max_intList hA.1 hl hsz (Q:=fun v s'=>s.toks ≤ s'.toks → ∃ K' mu',KLe K K' ∧ Own G K' (mu' ++ nu) s' ∧ mu' = mu ∧ tInt.rel K' v M) fun v h' tk hv hk ht=>?_)) (fun _ _ x=>x.2 x.1) fun _ _ x=>x.2
 obtain ⟨t,rfl⟩:=intItems_at hv
 obtain ⟨h1,h2⟩:=argBest_gt (numAt xs) (xs.size - 1)
 refine ⟨K,mu,.refl K,hs.grow (s':={ s with heap:=h',toks:=tk }) hk rfl rfl ht,rfl,t,?_⟩
 have hle:=hM (numAt xs (argBest (fun i j=>decide (numAt xs i > numAt xs j)) (xs.size - 1))) (by
  rw [hns,numAt_eq,List.getD_eq_getElem?_getD,List.getElem?_eq_getElem (by rw [List.length_map,Array.length_toList]; lia)]
  exact List.getElem_mem _)
 obtain ⟨j,hj,ej⟩:=List.getElem_of_mem (hns ▸ hm)
 have hge:=h2 j (by rw [List.length_map,Array.length_toList] at hj; lia)
 rw [numAt_eq xs j,List.getD_eq_getElem?_getD,List.getElem?_eq_getElem hj,ej] at hge
 have hge : M ≤ _:=hge
 rw [show M = numAt xs (argBest (fun i j=>decide (numAt xs i > numAt xs j)) (xs.size - 1)) by lia]
theorem cal_typeS {a : Str} : Cal G n (.type "type") [⟨tStr,a⟩] mu tVal (.type "str") mu:=fun K vs hv nu A s hA hs=>by
 obtain ⟨v,r,rfl,⟨t,rfl⟩,hr⟩:=All2.cons_right hv
 have:=hr.nil_right; subst this
 exact call_type_of (typeIs_str _ _ _) (by decide +kernel) ⟨K,mu,.refl K,hs,rfl,rfl⟩
theorem cmp_isNone {b : Bool} (h : ∀ K v,T.rel K v x → (v == .none) = b) : Cmp G .Is T x tNone () b:=fun n K mu v w hv e=>by
 have e : w = .none:=e
 subst e
 exact .same fun A s _ _=>PySem.is_none ⟨rfl,by rw [h K v hv]; rfl⟩
theorem cmp_isNotNone {b : Bool} (h : ∀ K v,T.rel K v x → (v == .none) = !b) : Cmp G .IsNot T x tNone () b:=fun n K mu v w hv e=>by
 have e : w = .none:=e
 subst e
 exact .same fun A s _ _=>PySem.isNot_none ⟨rfl,by rw [h K v hv]; cases b <;> rfl⟩
end
noncomputable def AttrOk (K : KH) (es : List DictEntry) (as : List (Str × TV)) : Prop:=All2 (fun (e : DictEntry) (q : Str × TV)=>(∃ t,e.key = .str q.1 t) ∧ q.2.T.rel K e.val q.2.x) es as
theorem AttrOk.mono {K K' : KH} (hle : KLe K K') {es : List DictEntry} {as : List (Str × TV)} (h : AttrOk K es as) : AttrOk K' es as:=All2.mono (fun _ q ⟨a,b⟩=>⟨a,q.2.T.mono hle b⟩) h
noncomputable def tInst (C : Addr) (as : List (Str × TV)) : Ty Unit:=⟨fun K v _=>∃ x dx es n,v = .ref x ∧ K x = some (instObj C dx) ∧ K dx = some (dictOf es n) ∧ AttrOk K es as,fun hle h=>by
 obtain ⟨x,dx,es,n,rfl,h1,h2,h3⟩:=h
 exact ⟨x,dx,es,n,rfl,hle _ _ h1,hle _ _ h2,h3.mono hle⟩⟩
noncomputable def tObj (C dx : Addr) : Ty Addr:=⟨fun K v x=>v = .ref x ∧ K x = some (instObj C dx),fun hle h=>⟨h.1,hle _ _ h.2⟩⟩
noncomputable def rAttr (dx : Addr) (as : List (Str × TV)) : Res:=⟨dx,fun K o=>∃ es n,o = dictOf es n ∧ AttrOk K es as,fun hle h=>let ⟨es,n,a,b⟩:=h; ⟨es,n,a,b.mono hle⟩⟩
theorem AttrOk.find {K : KH} : ∀ {es : List DictEntry} {as : List (Str × TV)},AttrOk K es as → ∀ {i : Nat} {nm : Str} {tv : TV},as[i]? = some (nm,tv) → (as.map (·.1)).Nodup → ∃ e,es.find? (·.key.isStr nm) = some e ∧ tv.T.rel K e.val tv.x
 | [],[],_,i,nm,tv,h,_=>by simp at h
 | e :: es,q :: as,⟨⟨⟨t,hk⟩,hv⟩,hr⟩,0,nm,tv,h,_=>by
  simp only [List.getElem?_cons_zero,Option.some.injEq] at h
  subst h
  exact ⟨e,by rw [List.find?_cons,hk]; simp [Value.isStr],hv⟩
 | e :: es,q :: as,⟨⟨⟨t,hk⟩,hv⟩,hr⟩,i + 1,nm,tv,h,hn=>by
  rw [List.getElem?_cons_succ] at h
  rw [List.map_cons,List.nodup_cons] at hn
  obtain ⟨e',he,hv'⟩:=AttrOk.find hr h hn.2
  refine ⟨e',?_,hv'⟩
  have hne : (q.1 == nm) = false:=by
   rw [beq_eq_false_iff_ne]
   rintro rfl
   exact hn.1 (List.mem_map.mpr ⟨_,List.mem_of_getElem? h,rfl⟩)
  rw [List.find?_cons,hk]
  simp only [Value.isStr,hne]
  exact he
theorem AttrOk.miss {K : KH} : ∀ {es : List DictEntry} {as : List (Str × TV)},AttrOk K es as → ∀ {nm : Str},(as.map (·.1)).contains nm = false → getL nm es = some none ∧ es.any (·.key.isStr nm) = false ∧ ∀ h k v,putL nm h k v es = es ++ [⟨h,k,v⟩]
 | [],[],_,nm,_=>⟨rfl,rfl,fun _ _ _=>rfl⟩
 | e :: es,q :: as,⟨⟨⟨t,hk⟩,hv⟩,hr⟩,nm,h=>by
  rw [List.map_cons,List.contains_cons,Bool.or_eq_false_iff] at h
  obtain ⟨a,b,c⟩:=AttrOk.miss hr h.2
  have hne : e.key.isStr nm = false:=by
   rw [hk]
   show (q.1 == nm) = false
   rw [beq_eq_false_iff_ne]
   intro e'
   rw [e'] at h
   simp at h
  have hnr : e.refKey = false:=by unfold DictEntry.refKey; rw [hk]
  refine ⟨?_,?_,fun h' k v=>?_⟩
  ·unfold getL at a ⊢
   rw [List.find?_cons,hne]
   dsimp only
   split at a
   ·cases a
   ·rename_i hf
    rw [hf]
    dsimp only
    rw [List.any_cons,hnr,Bool.false_or]
    exact a
  ·rw [List.any_cons,hne,b]; rfl
  ·show (if e.key.isStr nm then _ else e :: putL nm h' k v es) = _
   rw [hne,c]; rfl
section
variable {G : Gl} {n : Nat} {env : Env} {mu mu₁ mu₂ mu₃ nu rest last W R : List Res} {K : KH} {A : Around} {s : Shared} {E : Value → Shared → Prop} {α β γ : Type} {T : Ty α} {x : α} {U : Ty β} {y : β} {V : Ty γ} {z : γ} {e l r o e' : Expr} {pos p apos : Pos} {xs ys : List α} {es : List Expr} {ts : List TV} {ks : List (Str × TV)} {name : Str} {C f : Addr} {as : List (Str × TV)} {kws : List Keyword}
structure ClsG (G : Gl) (C : Addr) : Prop where
 top : TopF G
 ga : findIn G.fr (.ref C) "__getattribute__" = some (some (.builtin "object.__getattribute__"))
 gk : findIn G.fr (.ref C) "__getattr__" = some none
 hd : hasDictIn G.fr C = true
theorem instAt {v : Value} (h : (tInst C as).rel K v ()) (hk : ∀ b o,K b = some o → s.heap.get? b = some o) : ∃ x dx es n,v = .ref x ∧ InstAt s.heap x (instObj C dx) C (some (dictOf es n)) ∧ AttrOk K es as:=by
 obtain ⟨x,dx,es,n,rfl,h1,h2,h3⟩:=h
 exact ⟨x,dx,es,n,rfl,⟨hk _ _ h1,rfl,rfl,hk _ _ h2⟩,h3⟩
theorem Ev.attr {i : Nat} (hC : ClsG G C) (ho : Ev G n env mu o T x mu₁) (hT : ∀ K v,T.rel K v x → (tInst C as).rel K v ()) (hi : as[i]? = some (name,⟨U,y⟩)) (hn : (as.map (·.1)).Nodup) (hc : findIn G.fr (.ref C) name = some none)
  (hv : ∀ K v,U.rel K v y → handedIn v = true)
  (he : eval (.Attribute o name pos) env = (do
   let o' ← eval o env
   standAt pos.atName
   let r ← holding [o'] (getAttr o' name true)
   letTemporaryGo o o' r
   pure r):=by with_unfolding_all rfl) : Ev G n env mu (.Attribute o name pos) U y mu₁:=fun K nu A s hA hs =>
 Attribute_any_ (ho.use hA hs fun K1 v s1 h1 o1 r1=>by
  obtain ⟨x,dx,es,m,rfl,I,hat⟩:=instAt (hT K1 v r1) o1.k
  obtain ⟨en,hf,hr⟩:=hat.find hi hn
  have hl : getL name es = some (some en.val):=by unfold getL; rw [hf]
  exact get_value (o1.fr_in hC.top) I hC.ga (findObj_own hC.hd hc rfl hl) (hv _ _ hr) (done h1 (o1.toks _) hr)) he
noncomputable def EvAK (G : Gl) (n : Nat) (env : Env) (mu : List Res) (pos : Pos) (es : List Expr) (kws : List Keyword) (ts : List TV) (ks : List (Str × TV)) (mu' : List Res) : Prop :=
 (((backTo pos (starEach es env)).any (·.1) || (backToKw pos (keywordEach kws env)).any (·.1.isNone)) = false) ∧
 ∀ f K,Tri G n K mu (evalArgs f true (backTo pos (starEach es env)) (backToKw pos (keywordEach kws env))) fun K' mu'' a=>mu'' = mu' ∧ ARel K' a.pos ts ∧ BRel K' a.kw ks
theorem EvA.toK (h : EvA G n env mu pos es ts mu₁) (hp : (backTo pos (starEach es env)).any (·.1) = false:=by rfl) : EvAK G n env mu pos es [] ts [] mu₁:=⟨by rw [hp]; rfl,fun f K=>(h.args' (f:=f) hp K).mono fun K' mu' a _ ⟨e1,vs,e2,e3⟩=>by subst e2; exact ⟨e1,e3,trivial⟩⟩
theorem EvA.kw1 {nm : Str} {v : Expr} (h : EvA G n env mu pos (e :: es) ts mu₁) (hk : Ev G n env mu₁ v T x mu₂) (hst : starEach (e :: es) env = (false,eval e env) :: starEach es env:=by rfl) (hp : (backTo pos (starEach (e :: es) env)).any (·.1) = false:=by rfl) :
  EvAK G n env mu pos (e :: es) [⟨some nm,v,p⟩] ts [(nm,⟨T,x⟩)] mu₂:=⟨by rw [hp]; rfl,fun f K nu A s hA hs=>by
 refine evalArgs_kw2 rfl (Tri.use (h K) hA hs fun K1 mu1 vs s1 h1 o1 ⟨e1,r1⟩=>?_) hst
 subst e1
 refine kwAll_cons (hk.use hA o1 fun K2 w s2 h2 o2 r2=>kwAll_nil ?_)
 exact ⟨K2,mu₂,h1.trans h2,o2,rfl,r1.mono h2,⟨rfl,r2⟩,trivial⟩⟩
noncomputable def CalK (G : Gl) (n : Nat) (f : Value) (ts : List TV) (ks : List (Str × TV)) (mu : List Res) {α : Type} (T : Ty α) (x : α) (mu' : List Res) : Prop :=
 ∀ K vs kvs,ARel K vs ts → BRel K kvs ks → Vl G n K mu (call f vs kvs) T x mu'
theorem Cal.toK {f : Value} (h : Cal G n f ts mu T x mu₁) : CalK G n f ts [] mu T x mu₁:=fun K vs kvs hv hk=>by
 have:=All2.nil_right hk; subst this
 exact h K vs hv
noncomputable def CalX (G : Gl) (n : Nat) (f : Value) (ts : List TV) (ks : List (Str × TV)) (mu : List Res) (P : KH → Value → List Res → Prop) : Prop :=
 ∀ K vs kvs,ARel K vs ts → BRel K kvs ks → Tri G n K mu (call f vs kvs) fun K' mu' v=>P K' v mu'
noncomputable def EvX (G : Gl) (n : Nat) (env : Env) (mu : List Res) (e : Expr) (P : KH → Value → List Res → Prop) : Prop:=∀ K,Tri G n K mu (eval e env) fun K' mu' v=>P K' v mu'
structure ClsM (G : Gl) (C : Addr) (name : Str) (f : Addr) : Prop where
 fn : findIn G.fr (.ref C) name = some (some (.ref f))
 ty : typeIn G.fr (.ref f) = some (.type "function")
 keep : keepIn G.fr (.ref f) = true
theorem EvX.meth {P : KH → Value → List Res → Prop} (hC : ClsG G C) (hM : ClsM G C name f) (ho : Ev G n env mu o T x mu₁) (hT : ∀ K v,T.rel K v x → (tInst C as).rel K v ()) (hn : (as.map (·.1)).contains name = false) (ha : EvAK G n env mu₁ pos es kws ts ks mu₂)
  (hc : CalX G n (.ref f) (⟨T,x⟩ :: ts) ks mu₂ P) {pl : Sem Bool} (he : eval (.Call (.Attribute o name apos) es kws pos) env = (do
   let ov ← eval o env
   standAt apos.atName
   let (f,first) ← holding [ov] (getMethod ov name pl)
   callWith pos f first (backTo pos (starEach es env)) (backToKw pos (keywordEach kws env))):=by rfl) : EvX G n env mu (.Call (.Attribute o name apos) es kws pos) P:=fun K nu A s hA hs =>
 methodCall_KW (ho.use hA hs fun K1 v s1 h1 o1 r1=>by
  obtain ⟨xa,dx,des,m,e1,I,hat⟩:=instAt (hT K1 v r1) o1.k
  subst e1
  refine method_fn (o1.fr_in hC.top) I hC.ga hC.gk hM.fn hM.ty (by show (lookIn name (dictOf des m)).map _ = _; rw [lookIn_dict,(hat.miss hn).1]; rfl) ?_
  refine callWith_of (P:=fun h=>G.fr.In h) ha.1 (fun h X=>keeps_K hM.keep h X) (Tri.use (ha.2 (.ref f) K1) hA o1 fun K2 mu2 a s2 h2 o2 ⟨e2,r2,r3⟩=>⟨o2.fr_in hC.top,?_⟩)
  subst e2
  exact Tri.use (hc K2 (.ref xa :: a.pos) a.kw ⟨T.mono h2 r1,r2⟩ r3) hA o2 fun K3 mu3 v s3 h3 o3 r3=>⟨K3,mu3,h1.trans (h2.trans h3),o3,r3⟩) he
theorem Ev.meth (hC : ClsG G C) (hM : ClsM G C name f) (ho : Ev G n env mu o T x mu₁) (hT : ∀ K v,T.rel K v x → (tInst C as).rel K v ()) (hn : (as.map (·.1)).contains name = false) (ha : EvAK G n env mu₁ pos es kws ts ks mu₂)
  (hc : CalK G n (.ref f) (⟨T,x⟩ :: ts) ks mu₂ U y mu₃) {pl : Sem Bool} (he : eval (.Call (.Attribute o name apos) es kws pos) env = (do
   let ov ← eval o env
   standAt apos.atName
   let (f,first) ← holding [ov] (getMethod ov name pl)
   callWith pos f first (backTo pos (starEach es env)) (backToKw pos (keywordEach kws env))):=by rfl) : Ev G n env mu (.Call (.Attribute o name apos) es kws pos) U y mu₃ :=
 EvX.meth hC hM ho hT hn ha (P:=fun K v mu'=>mu' = mu₃ ∧ U.rel K v y) hc he
structure ClsS (G : Gl) (C : Addr) : Prop where
 g : ClsG G C
 sa : findIn G.fr (.ref C) "__setattr__" = some (some (.builtin "object.__setattr__"))
 po : plainOver G.fr C = true
theorem Own.changeN {r r' : Res} {h' : Heap} {o' : Obj} {t : Nat} (h : Own G K (r :: mu) s) (ha : r'.a = r.a) (hk : ∀ b o,b ≠ r.a → b ≠ cStatics → s.heap.get? b = some o → h'.get? b = some o) (hst : h'.Ns cStatics G.mc ∧ h'.get? cStatics = some G.so) (he : h'.get? r.a = some o') (hP : r'.P K o') (ht : s.toks ≤ t:=by lia) :
  Own G K (r' :: mu) { s with heap:=h',toks:=t }:=by
 have hkk:=h.off r List.mem_cons_self
 have hnd:=h.nodup
 rw [List.map_cons,List.nodup_cons] at hnd
 have ne : ∀ q ∈ mu,q.a ≠ r.a:=fun q hq e=>hnd.1 (List.mem_map.mpr ⟨q,hq,e⟩)
 refine ⟨fun b o e=>hk b o (by rintro rfl; rw [hkk.1] at e; cases e) (by rintro rfl; rw [h.kst.1] at e; cases e) (h.k b o e),h.old,fun q hq=>?_,fun q hq=>?_,?_,h.gens,h.os,fun c=>Nat.lt_of_lt_of_le (h.tk c) ht,hst,h.kst⟩
 ·rcases List.mem_cons.mp hq with rfl | hq
  ·exact ⟨o',by rw [ha]; exact he,hP⟩
  ·obtain ⟨o,e,p⟩:=h.led q (List.mem_cons_of_mem _ hq)
   exact ⟨o,hk _ _ (ne q hq) (h.off q (List.mem_cons_of_mem _ hq)).2 e,p⟩
 ·rcases List.mem_cons.mp hq with rfl | hq
  ·rw [ha]; exact hkk
  ·exact h.off q (List.mem_cons_of_mem _ hq)
 ·rw [List.map_cons,List.nodup_cons,ha]
  exact hnd
theorem split_R {i : Nat} {r r' : Res} (hi : R[i]? = some r) : (W ++ R ++ nu).Perm (r :: (W ++ R.eraseIdx i ++ nu)) ∧ (W ++ R.set i r' ++ nu).Perm (r' :: (W ++ R.eraseIdx i ++ nu)):=by
 obtain ⟨p,q⟩:=set_split (r':=r') hi
 have a : ∀ {l : List Res} {t : Res},l.Perm (t :: R.eraseIdx i) → (W ++ l ++ nu).Perm (t :: (W ++ R.eraseIdx i ++ nu)):=fun h =>
  ((h.append_left W).append_right nu).trans (by rw [List.append_assoc,List.append_assoc]; exact List.perm_middle)
 exact ⟨a p,a q⟩
theorem setA_all {dx xa : Addr} {v : Value} {es : List DictEntry} {k : Nat} (hC : ClsS G C) (hin : G.fr.In s.heap) (I : InstAt s.heap xa (instObj C dx) C (some (dictOf es k))) (e3 : s.heap.get? dx = some (dictOf es k))
  (hm1 : (lookIn name (dictOf es k)) = some none) (hz : (putL name (PyData.keyHash G.w.params name) (.str name (s.toks + 1)) v es).length ≤ 1000) (ht : takerIn G.fr C name = some none) :
  wpAny G.M A (setAttr (.ref xa) name v) (fun _ s'=>∃ h',s' = { s with heap:=h',toks:=s.toks + 1 + 1 } ∧ h'.get? dx = some (dictOf (putL name (PyData.keyHash G.w.params name) (.str name (s.toks + 1)) v es) (putN name es k)) ∧ Heap.ExtBut dx s.heap h') noE s:=by
 refine set_plain hin I hC.sa (osa_open (s:={ s with toks:=s.toks + 1 }) hin I hC.po ht fun b=>?_)
 obtain ⟨hx,hcl,-,-⟩:=I
 obtain ⟨cd,hc,hd⟩:=any_some hC.g.hd
 have hput:=putName_dict name (PyData.keyHash G.w.params name) (.str name (s.toks + 1)) v es k
 have hself : (s.heap.update dx (Obj.putName name (PyData.keyHash G.w.params name) (.str name (s.toks + 1)) v)).get? dx = some (dictOf (putL name (PyData.keyHash G.w.params name) (.str name (s.toks + 1)) v es) (putN name es k)):=by
  rw [← hput]; exact Heap.get?_update_self _ e3 (by rw [hput]; rfl)
 refine wpAny_bind (wpAny_pure (wpAny_bind (wpAny_bind (wpAny_loadPart hx (wpAny_bind ((looks_clsIn hin hc).here (s:={ s with toks:=s.toks + 1 }) ?_))))))
 rw [hd]
 refine wpAny_pure (a:=some dx) (wpAny_bind (wpAny_pure (wpAny_bind ?_)))
 unfold nsSet
 refine wpAny_bind (wpAny_bind (wpAny_askSetting (wpAny_pure (wpAny_bind (wpAny_mkText (wpAny_bind (wpAny_loadPart (s:={ s with toks:=s.toks + 1 + 1 }) e3 ?_)))))))
 have c : (!es.toArray.any (·.key.isStr name) && es.toArray.any (·.refKey)) = false:=by
  unfold lookIn at hm1
  dsimp only [dictOf] at hm1
  rw [List.any_toArray,List.any_toArray]
  split at hm1
  ·cases hm1
  ·split at hm1
   ·cases hm1
   ·rename_i z; rw [Bool.not_eq_true] at z; rw [z,Bool.and_false]
 dsimp only [dictOf]
 rw [aRefKeyMayBeTheName_at,c]
 refine wpAny_updatePart (s:={ s with toks:=s.toks + 1 + 1 }) e3 ?_
 refine wpAny_bind (wpAny_lookBehind hself (pastItsLine_dict (by rw [List.size_toArray,sizeLine_eq]; lia)) ?_)
 exact wpAny_pure ⟨_,rfl,hself,fun b o hb e=>(Heap.get?_update_ne s.heap _ _ _ hb).trans e⟩
theorem Own.changeX {r r' : Res} {h' : Heap} {o' : Obj} {t : Nat} (h : Own G K (r :: mu) s) (ha : r'.a = r.a) (hx : Heap.ExtBut r.a s.heap h') (he : h'.get? r.a = some o') (hP : r'.P K o') (ht : s.toks ≤ t:=by lia) :
  Own G K (r' :: mu) { s with heap:=h',toks:=t }:=by
 have hk:=h.off r List.mem_cons_self
 exact h.changeN ha (fun b o hb hc e=>hx b o hb e) ⟨h.st.1.extBut hx (Ne.symm hk.2),hx _ _ (Ne.symm hk.2) h.st.2⟩ he hP ht
theorem ExS.setAttr {dx xa : Addr} {i : Nat} {tp : Pos} (hC : ClsS G C) (hx : Ev G n env mu e T x mu₁) (ho : Ev G n env mu₁ o (tObj C dx) xa (W ++ R)) (hi : R[i]? = some (rAttr dx as)) (hn : (as.map (·.1)).contains name = false) (hl : as.length ≤ 900) (ht : takerIn G.fr C name = some none)
  (hsw : swapsWith e (some (.Attribute o name tp)) pos.line env = pure false:=by rfl) : ExS G n env mu (.Assign [.Attribute o name tp] e pos) (fNext (W ++ R.set i (rAttr dx (as ++ [(name,⟨T,x⟩)])))):=fun K nu A s hA hs =>
 plainObj_wpAny_Assign_Attribute (hx.use hA hs fun K1 v s1 h1 o1 r1=>ho.use hA o1 fun K2 w s2 h2 o2 ⟨e2,hk2⟩=>by
  subst e2
  obtain ⟨ob,e3,es,m,rfl,hat⟩:=o2.get (mem_R hi)
  have e3 : s2.heap.get? dx = some (dictOf es m):=e3
  obtain ⟨m1,m2,m3⟩:=hat.miss hn
  have I : InstAt s2.heap xa (instObj C dx) C (some (dictOf es m)):=⟨o2.k _ _ hk2,rfl,rfl,e3⟩
  have hlen:=All2.length hat
  refine wpAny_mono (setA_all hC (o2.fr_in hC.g.top) I e3 m1 ?_ ht) (fun _ s3 x=>?_) fun _ _ x=>x
  ·rw [m3,List.length_append,hlen]; simp only [List.length_singleton]; lia
  ·obtain ⟨h',rfl,hd,hx⟩:=x
   obtain ⟨pa,pb⟩:=split_R (W:=W) (nu:=nu) (r':=rAttr dx (as ++ [(name,⟨T,x⟩)])) hi
   have o3:=Own.changeX (r':=rAttr dx (as ++ [(name,⟨T,x⟩)])) (h':=h') (t:=s2.toks + 1 + 1) (o2.perm pa) rfl hx hd ⟨_,_,rfl,?_⟩ (by lia)
   ·exact ⟨K2,_,h1.trans h2,o3.perm pb.symm,rfl,rfl⟩
   ·rw [m3]
    exact All2.snoc hat ⟨⟨_,rfl⟩,T.mono h2 r1⟩) hsw
end
section
variable {G : Gl} {n : Nat} {env : Env} {mu mu₁ mu₂ mu₃ nu rest last W R : List Res} {K : KH} {A : Around} {s : Shared} {E : Value → Shared → Prop} {α β γ : Type} {T : Ty α} {x : α} {U : Ty β} {y : β} {V : Ty γ} {z : γ} {e l r o e' : Expr} {pos p apos : Pos} {xs ys : List α} {es : List Expr} {ts : List TV} {ks : List (Str × TV)} {name : Str} {C f : Addr} {kws : List Keyword} {st : Stmt} {ss : List Stmt} {F F' : Flow → KH → List Res → Prop}
 {ln cn gn : List Str} {rho ka : List (Option TV)} {fd : FuncData} {body : List Stmt} {ps : List (Str × TV)} {P P' : KH → Value → List Res → Prop}
noncomputable def CodX (G : Gl) (n : Nat) (f : Value) (ts : List TV) (ks : List (Str × TV)) (mu : List Res) (P : KH → Value → List Res → Prop) : Prop :=
 ∀ K vs kvs nu A s (R : Result → Shared → Prop),ARel K vs ts → BRel K kvs ks → Room n A → Own G K (mu ++ nu) s → (∀ K' mu' v s',KLe K K' → Own G K' (mu' ++ nu) s' → P K' v mu' → R (.ok (.ret v)) s') → codeAny G.M A (.call f ⟨vs,kvs⟩) R s
theorem CodX.cal {f : Value} (h : CodX G n f ts ks mu P) : CalX G n f ts ks mu P:=fun K vs kvs hv hk nu A s hA hs=>wpAny_call (h K vs kvs nu A s _ hv hk hA hs fun K' mu' v s' hle ho hp=>⟨K',mu',hle,ho,hp⟩)
theorem CodX.calK {f : Value} (h : CodX G n f ts ks mu (fun K v mu'=>mu' = mu₁ ∧ T.rel K v x)) : CalK G n f ts ks mu T x mu₁:=h.cal
theorem CodX.func (h : FnOk G f fd body ln cn gn)
  (hb : ∀ K vs kvs,ARel K vs ts → BRel K kvs ks → Tri G n K mu (bindArgs fd ⟨vs,kvs⟩) fun K1 mu1 bs=>mu1 = mu₁ ∧ BRel K1 bs ps)
  (hst : ∀ env ca,FEnv env ln cn ca gn → ca.length = cn.length → Bd G n env (VS env.locals ln (blank ln.length) ca (blank cn.length) ++ mu₁) ps (VS env.locals ln rho ca ka ++ mu₁))
  (hbd : ∀ env ca,FEnv env ln cn ca gn → ca.length = cn.length → Ex G n env (VS env.locals ln rho ca ka ++ mu₁) body (fOutP G P)) : CodX G (n + 1) (.ref f) ts ks mu P:=fun K vs kvs nu A s R hv hk hA hs hR =>
 fn_runX h hA hs (hb K vs kvs hv hk) hst (fun env ca F hl _ _=>hbd env ca F hl) hR
theorem fOutP.end_ (hw : Wk G mu mu₂) (hP : ∀ K,P K .none mu₂) : Ex G n env mu [] (fOutP G P):=Ex.nil fun K=>⟨mu₂,hw,hP K⟩
structure ClsK (G : Gl) (C fI : Addr) : Prop where
 top : TopF G
 made : makesIn G.fr C = true
 ini : findIn G.fr (.ref C) "__init__" = some (some (.ref fI))
 ty : typeIn G.fr (.ref fI) = some (.type "function")
 keep : keepIn G.fr (.ref C) = true
theorem CodX.make {fI : Addr} {ι : Type} {as : ι → List (Str × TV)} {M : ι → List Res} (hC : ClsK G C fI)
  (hi : ∀ xa dx,CodX G n (.ref fI) (⟨tObj C dx,xa⟩ :: ts) ks (rAttr dx [] :: mu) (fun K v mu'=>v = .none ∧ ∃ i,mu' = rAttr dx (as i) :: M i)) :
  CodX G (n + 1) (.ref C) ts ks mu (fun K v mu'=>∃ i,mu' = M i ∧ (tInst C (as i)).rel K v ()):=fun K vs kvs nu A s R hv hk hA hs hR=>by
 obtain ⟨h,g,d,t,os⟩:=s
 have X:=hs.fr_in hC.top
 refine make_core (makes_of X hC.made) (looks_findIn X hC.ini) (fun self=>bind_fn X self hC.ty) (.inl rfl) ?_
 have hA' : Room n (A.under (.builtin "type.__call__" ⟨.ref C :: vs,kvs⟩)):=by
  have h1 : (A.under (.builtin "type.__call__" ⟨.ref C :: vs,kvs⟩)).depth = A.depth + 1:=rfl
  have h2 : (A.under (.builtin "type.__call__" ⟨.ref C :: vs,kvs⟩)).units ≤ A.units + 10:=by
   have h4 : (Code.builtin "type.__call__" ⟨.ref C :: vs,kvs⟩).frames ≤ 3:=by
    exact Nat.le_of_ble_eq_true (by kernel_rfl)
   show A.units + (1 + 3 * _) ≤ _
   lia
  have h3 : (A.under (.builtin "type.__call__" ⟨.ref C :: vs,kvs⟩)).handled = A.handled:=rfl
  exact ⟨by rw [h3]; exact hA.1,by have:=hA.2.1; rw [h1]; lia,by have:=hA.2.2; lia⟩
 have o1:=hs.pushOwned emptyDict (rAttr h.objs.size []) rfl ⟨[],0,rfl,trivial⟩
 have o2:=o1.push (instObj C h.objs.size)
 have hsz : (h.push emptyDict).objs.size = h.objs.size + 1:=Heap.size_push ..
 rw [hsz] at o2
 have hf1:=o1.fresh
 have hf1 : K (h.push emptyDict).objs.size = none:=hf1
 rw [hsz] at hf1
 have hle:=kput_le (o:=instObj C h.objs.size) hf1
 refine hi (h.objs.size + 1) h.objs.size _ (.ref (h.objs.size + 1) :: vs) kvs nu _ _ _ ⟨⟨rfl,kput_self ..⟩,hv.mono hle⟩ (hk.mono hle) hA' o2 fun K' mu' v s' hle' ho ⟨e,i,e2⟩=>?_
 subst e e2
 refine ⟨rfl,?_⟩
 obtain ⟨ob,⟨es,m,rfl,hat⟩,hkn,o3⟩:=Own.freeze ho
 have hle2:=kput_le (o:=dictOf es m) hkn
 exact hR _ (M i) _ s' (hle.trans (hle'.trans hle2)) o3 ⟨i,rfl,_,_,es,m,rfl,hle2 _ _ (hle' _ _ (kput_self ..)),kput_self ..,hat.mono hle2⟩
theorem EvX.make {fI : Addr} (hC : ClsK G C fI) (hf : Ev G n env mu e tVal (.ref C) mu₁) (ha : EvAK G n env mu₁ pos es kws ts ks mu₂) (hc : CalX G n (.ref C) ts ks mu₂ P)
  (hn : eval (.Call e es kws pos) env = (do callWith pos (← eval e env) [] (backTo pos (starEach es env)) (backToKw pos (keywordEach kws env))):=by rfl) : EvX G n env mu (.Call e es kws pos) P:=fun K nu A s hA hs=>by
 rw [hn]
 refine wpAny_bind (hf.use hA hs fun K1 v s1 h1 o1 r1=>?_)
 have r1 : v = .ref C:=r1
 subst r1
 refine callWith_of (P:=fun h=>G.fr.In h) ha.1 (fun h X=>keeps_K hC.keep h X) (Tri.use (ha.2 (.ref C) K1) hA o1 fun K2 mu2 a s2 h2 o2 ⟨e2,r2,r3⟩=>⟨o2.fr_in hC.top,?_⟩)
 subst e2
 exact Tri.use (hc K2 a.pos a.kw r2 r3) hA o2 fun K3 mu3 v s3 h3 o3 r3=>⟨K3,mu3,h1.trans (h2.trans h3),o3,r3⟩
theorem EvAK.none : EvAK G n env mu pos [] [] [] [] mu:=EvA.nil.toK
theorem EvX.list (h : EvEs G n env mu pos es T xs (W ++ R)) (hz : xs.length ≤ sizeLine) : EvX G n env mu (.List es pos) (fun _ v mu'=>∃ a,v = .ref a ∧ mu' = W ++ rList a T xs :: R):=fun K nu A s hA hs =>
 wpAny_List_spliced (Tri.use (h K) hA hs fun K1 mu1 vs s1 h1 o1 ⟨e1,r1⟩=>by
  subst e1
  refine ⟨by rw [r1.length]; exact hz,K1,W ++ rList s1.heap.objs.size T xs :: R,h1,?_,_,rfl,rfl⟩
  have:=o1.pushOwned (listO vs 0) (rList s1.heap.objs.size T xs) rfl ⟨vs,0,rfl,r1⟩
  exact this.perm (by rw [List.append_assoc,List.append_assoc]; exact List.perm_middle.symm))
theorem EvX.mono (h : EvX G n env mu e P) (hp : ∀ K v mu',P K v mu' → P' K v mu') : EvX G n env mu e P':=fun K=>(h K).mono fun K' mu' v _ q=>hp K' v mu' q
theorem ExS.assignX {t : Expr} (h : EvX G n env mu e P) (ha : ∀ K v mu',P K v mu' → Tri G n K mu' (PySem.assign t env v) fun K' mu'' _=>F .next K' mu'') (hst : assignEach [t] env = [(false,PySem.assign t env)]:=by rfl)
  (hs : swapsWith e (some t) pos.line env = pure false:=by rfl) (hw : swappedStores [t] e env = pure none:=by rfl) : ExS G n env mu (.Assign [t] e pos) F:=fun K nu A s hA hs' =>
 wpAny_Assign_stores (Tri.use (h K) hA hs' fun K1 mu1 v s1 h1 o1 r1=>by
  rw [hst]
  show wpAny _ A (PySem.assign t env v) _ _ _
  exact Tri.use (ha K1 v mu1 r1) hA o1 fun K2 mu2 _ s2 h2 o2 r2=>⟨K2,_,h1.trans h2,o2,r2⟩) hs hw
theorem Ex.nextX {ι : Type} {M : ι → List Res} (h : ExS G n env mu st (fun f _ mu'=>f = .next ∧ ∃ i,mu' = M i)) (h' : ∀ i,Ex G n env (M i) ss F) : Ex G n env mu (st :: ss) F:=Ex.cons h fun f K mu' ⟨e1,i,e2⟩=>by subst e1 e2; exact h' i K
end
noncomputable def rDict (G : Gl) (d : Addr) (kvs : List (Str × Int)) : Res:=⟨d,fun K o=>∃ pairs,o.IsDictOf (PySem.strKind G.prog G.w) pairs ∧ All2 (fun (q : Str × Value) (r : Str × Int)=>q.1 = r.1 ∧ tInt.rel K q.2 r.2) pairs kvs,fun hle h=>let ⟨ps,a,b⟩:=h; ⟨ps,a,b.mono fun _ _ ⟨x,y⟩=>⟨x,tInt.mono hle y⟩⟩⟩
noncomputable def atD (kvs : List (Str × Int)) (k : Str) : Option Int:=(kvs.find? fun kv=>kv.1 = k).map (·.2)
theorem valueAt_of {K : KH} {k : Str} : ∀ {pairs : List (Str × Value)} {kvs : List (Str × Int)},All2 (fun (q : Str × Value) (r : Str × Int)=>q.1 = r.1 ∧ tInt.rel K q.2 r.2) pairs kvs →
  (∀ i,atD kvs k = some i → ∃ v,valueAt pairs k = some v ∧ tInt.rel K v i) ∧ (atD kvs k = none → valueAt pairs k = none) ∧ pairs.any (fun kv=>kv.1 = k) = (atD kvs k).isSome
 | [],[],_=>⟨fun i h=>by simp [atD] at h,fun _=>rfl,rfl⟩
 | q :: ps,r :: kvs,⟨⟨h1,h2⟩,hr⟩=>by
  obtain ⟨a,b,c⟩:=valueAt_of (k:=k) hr
  unfold atD valueAt at *
  by_cases hk : r.1 = k
  ·have hq : q.1 = k:=h1.trans hk
   simp only [List.find?_cons,hk,hq,decide_true,Option.map_some,List.any_cons,Bool.true_or,Option.isSome_some]
   refine ⟨fun i h=>by cases h; exact ⟨_,rfl,h2⟩,(fun h=>by cases h),by trivial⟩
  ·have hq : ¬ q.1 = k:=fun e=>hk (h1.symm.trans e)
   simp only [List.find?_cons,hk,hq,decide_false,List.any_cons,Bool.false_or]
   exact ⟨a,b,c⟩
section
variable {G : Gl} {n : Nat} {env : Env} {mu mu₁ mu₂ mu₃ nu rest last W R : List Res} {K : KH} {A : Around} {s : Shared} {E : Value → Shared → Prop} {α β γ : Type} {T : Ty α} {x : α} {U : Ty β} {y : β} {V : Ty γ} {z : γ} {e l r o e' : Expr} {pos p apos : Pos} {xs ys : List α} {es : List Expr} {ts : List TV} {ks : List (Str × TV)} {name : Str} {C f d : Addr} {kws : List Keyword} {kvs : List (Str × Int)} {i : Nat} {a : Str}
theorem Own.dict (h : Own G K (W ++ R ++ nu) s) (hi : R[i]? = some (rDict G d kvs)) : ∃ pairs,s.heap.DictOf (PySem.strKind G.prog G.w) d pairs ∧ All2 (fun (q : Str × Value) (r : Str × Int)=>q.1 = r.1 ∧ tInt.rel K q.2 r.2) pairs kvs:=by
 obtain ⟨ob,e1,pairs,h1,h2⟩:=h.get (mem_R hi)
 exact ⟨pairs,Heap.dictOf_iff.mpr ⟨ob,e1,h1⟩,h2⟩
theorem in_dict (t : TopF G) (hi : R[i]? = some (rDict G d kvs)) : ∀ K v w,tStr.rel K v a → tVal.rel K w (.ref d) → Vl G n K (W ++ R) (compareOp .In v w) tBool (atD kvs a).isSome (W ++ R):=fun K v w ⟨tk,e1⟩ e2 nu A s hA hs=>by
 have e2 : w = .ref d:=e2
 subst e1 e2
 obtain ⟨pairs,hd,hp⟩:=hs.dict hi
 refine wpAny_in_of (strKind_is G.prog G.w a tk) (hs.noSys t (mem_R hi)) hd.mapOf (done (.refl K) (hs.toks _) ?_)
 show Value.bool _ = Value.bool _
 obtain ⟨h1,h2,_⟩:=valueAt_of (k:=a) hp
 cases hc : atD kvs a with
 | none=>rw [h2 hc]; rfl
 | some j=>obtain ⟨v,hv,_⟩:=h1 j hc; rw [hv]; rfl
theorem Cond.inDict (t : TopF G) (hl : Ev G n env mu l tStr a mu₁) (hr : Ev G n env mu₁ r tVal (.ref d) (W ++ R)) (hi : R[i]? = some (rDict G d kvs)) (hm : behindInMarks .In r = false:=by with_unfolding_all rfl) : Cond G n env mu (.Compare l [.In] [r] pos) (atD kvs a).isSome (W ++ R) :=
 Cond.cmp hl hr (in_dict t hi) hm
theorem Ev.getD {j : Int} (hl : Ev G n env mu l tVal (.ref d) mu₁) (hr : Ev G n env mu₁ r tStr a (W ++ R)) (hi : R[i]? = some (rDict G d kvs)) (hv : atD kvs a = some j)
  (hs : ∀ t,subscripted r false (.ref d) (.str a t) = operate [.ref d,.str a t] (getItem (.ref d) (.str a t)):=by intro _; with_unfolding_all rfl) : Ev G n env mu (.Subscript l r pos) tInt j (W ++ R):=fun K nu A s hA hs' =>
 Subscript_ (hl.use hA hs' fun K1 v s1 h1 o1 r1=>hr.use hA o1 fun K2 w s2 h2 o2 r2=>by
  have r1 : v = .ref d:=r1
  obtain ⟨tk,r2⟩:=r2
  subst r1 r2
  obtain ⟨pairs,hd,hp⟩:=o2.dict hi
  obtain ⟨v,hv',hr'⟩:=(valueAt_of (k:=a) hp).1 j hv
  exact tail_any hd.typeIs slot_dict_getitem.lookup (wpAny_getItem_of (strKind_is G.prog G.w a tk) hd.mapOf hv' (done (h1.trans h2) (o2.toks _) hr')) (hs _))
theorem ExS.setD {j : Int} {tp : Pos} (hx : Ev G n env mu e tInt j mu₁) (hl : Ev G n env mu₁ l tVal (.ref d) mu₂) (hr : Ev G n env mu₂ r tStr a (W ++ R)) (hi : R[i]? = some (rDict G d kvs)) (hv : atD kvs a = none) (hz : kvs.length ≤ 100000)
  (hs : swapsWith e (some (.Subscript l r tp)) pos.line env = pure false:=by rfl) : ExS G n env mu (.Assign [.Subscript l r tp] e pos) (fNext (W ++ R.set i (rDict G d (kvs ++ [(a,j)])))):=fun K nu A s hA hs' =>
 wpAny_Assign_Subscript (hx.use hA hs' fun K1 v s1 h1 o1 r1=>hl.use hA o1 fun K2 w s2 h2 o2 r2=>hr.use hA o2 fun K3 q s3 h3 o3 r3=>by
  have r2 : w = .ref d:=r2
  obtain ⟨tk,r3⟩:=r3
  subst r2 r3
  obtain ⟨pairs,hd,hp⟩:=o3.dict hi
  obtain ⟨_,_,hany⟩:=valueAt_of (k:=a) hp
  rw [hv] at hany
  have hlen:=hp.length
  have h24 : sizeLine = 2 ^ 24:=rfl
  refine wpAny_setItem_pairs (strKind_is G.prog G.w a tk) hd (fun h' hd' hs'=>?_) (by lia)
  obtain ⟨o',e',hd''⟩:=Heap.dictOf_iff.mp hd'
  refine ⟨K3,_,h1.trans (h2.trans h3),Own.changeR (t:=s3.toks + 1) (r':=rDict G d (kvs ++ [(a,j)])) o3 hi rfl hs' e' ⟨_,hd'',?_⟩,rfl,rfl⟩
  unfold stored
  rw [hany]
  exact hp.snoc ⟨rfl,tInt.mono (h2.trans h3) r1⟩) hs
theorem EvX.dict1 {j : Int} {k v : Expr} (hk : Ev G n env mu k tStr a mu) (hv : Ev G n env mu v tInt j mu) (hmu : mu = W ++ R)
  (hshape : (evalEachOpt [some k] env).zip ((evalEach [v] env).map fun v=>do let x ← v; standAt pos; pure x) = [(some (eval k env),(do let x ← eval v env; standAt pos; pure x))]:=by rfl) :
  EvX G n env mu (.Dict [some k] [v] pos) (fun _ w mu'=>∃ d,w = .ref d ∧ mu' = W ++ rDict G d [(a,j)] :: R):=fun K nu A s hA hs=>by
 have o1:=hs.pushOwned { cls:=.type "dict", data:=.dict #[] } (rDict G s.heap.objs.size []) rfl ⟨[],by
  have:=(Heap.dictOf_iff (knd:=PySem.strKind G.prog G.w)).mp (Heap.DictOf.new s.heap)
  obtain ⟨o,e,h⟩:=this
  rw [Heap.get?_push_size _ rfl] at e
  cases e
  exact h,trivial⟩
 have o1 : Own G K (mu ++ (rDict G s.heap.objs.size [] :: nu)) _:=o1.perm List.perm_middle.symm
 refine wpAny_Dict_pairs (knd:=PySem.strKind G.prog G.w) (pairs:=[(eval k env,(do let x ← eval v env; standAt pos; pure x))]) hshape (by simp) (by simp) ?_
 refine evalPairs_cons (hk.use hA o1 fun K1 kv s1 h1 o2 r1=>wpAny_bind (hv.use hA o2 fun K2 vv s2 h2 o3 r2=>wpAny_bind (wpAny_standAt (wpAny_pure (wpAny_pure ?_)))))
 obtain ⟨tk,r1⟩:=r1
 subst r1
 have hR : (mu ++ (rDict G s.heap.objs.size [] :: nu)).Perm (rDict G s.heap.objs.size [] :: (mu ++ nu)):=List.perm_middle
 have o4:=o3.perm hR
 obtain ⟨ob,e1,pairs,q1,q2⟩:=o4.get List.mem_cons_self
 have:=q2.nil_right; subst this
 refine ⟨[(a,vv)],⟨strKind_is _ _ _ _,rfl,trivial⟩,Heap.dictOf_iff.mpr ⟨ob,e1,q1⟩,fun h' hd' hs'=>?_⟩
 obtain ⟨o',e',hd''⟩:=Heap.dictOf_iff.mp hd'
 have o5:=Own.change (t:=s2.toks + 1) (r':=rDict G s.heap.objs.size [(a,j)]) o4 rfl hs' e' ⟨_,hd'',⟨rfl,r2⟩,trivial⟩
 refine ⟨K2,W ++ rDict G s.heap.objs.size [(a,j)] :: R,h1.trans h2,?_,_,rfl,rfl⟩
 refine o5.perm ?_
 subst hmu
 rw [List.append_assoc,List.append_assoc]
 exact List.perm_middle.symm
end
theorem plainAttrs_pat : PlainAttrs "re.Pattern" :=
 ⟨⟨"object.__getattribute__", by rw [typeLookup_type,builtinLookup_eq_fast]; kernel_rfl,by decide +kernel⟩,by rw [typeLookup_type,builtinLookup_eq_fast]; kernel_rfl⟩
theorem slot_search : Slot "re.Pattern" "search" "re.Pattern.search" :=
 .of (owner:="re.Pattern") (n:="search") (by rw [typeLookup_type,builtinLookup_eq_fast]; kernel_rfl) (by decide +kernel) (by decide +kernel) (by decide +kernel)
  (by first | exact .inl (by decide +kernel) | exact .inr (by decide +kernel)) (by rw [isSubtype_type]; kernel_rfl)
theorem type_search : typeOf (.builtin "re.Pattern.search") = pure (.type "method_descriptor"):=by show builtinType _ = _; rw [builtinType_eq_fast]; kernel_rfl
theorem entry_search : entryFor table "re.Pattern.search" = some Builtin.«re.Pattern.search»:=entryFor_of_tree (by kernel_rfl)
theorem args_search (a b : Value) : argsOk "re.Pattern.search" ⟨[a,b],[]⟩:=by unfold argsOk; kernel_rfl
open PySem.Builtin PySem.Builtin.Re PySem.Sre in
theorem named_search (v : Value) : reNamed "re.Pattern.search" "search" ["string", "pos", "endpos"] 1 [v] [] = pure [some v,none,none]:=by kernel_rfl
noncomputable def NoHit (code text : Array Nat) : Prop:=(∀ i,i < text.size → ∀ seen,∃ seen',Sre.inSet code (text.getD i 0) code.size 5 true seen = .ok (false,seen'))
open PySem.Sre in
theorem admitted_none {m : Sre.M} (h : NoHit m.code m.text) (hl : m.lim ≤ m.text.size) : ∀ (fuel s : Nat) (seen : Sre.Seen),∃ seen',Sre.M.admitted m fuel s seen = .ok (none,seen')
 | 0,s,seen=>⟨seen,rfl⟩
 | fuel + 1,s,seen=>by
  unfold Sre.M.admitted
  by_cases hs : s ≥ m.lim
  ·exact ⟨seen,if_pos hs⟩
  ·rw [if_neg hs]
   obtain ⟨seen',e⟩:=h s (by lia) seen
   rw [e]
   exact admitted_none h hl fuel (s + 1) seen'
theorem attempt_none {m : Sre.M} {s : Nat} (h : NoHit m.code m.text) (hl : m.lim ≤ m.text.size) (hf : m.hasFirstSet = true) (ho : m.outcome = none) (hr : m.frames = []) : (m.attemptFrom s true).answer = some false ∧ (m.attemptFrom s true).outcome = none ∧ (m.attemptFrom s true).frames = []:=by
 unfold Sre.M.attemptFrom
 rw [hf]
 obtain ⟨seen',e⟩:=admitted_none h hl (m.lim + 1 - s) s m.seen
 simp only [Bool.not_true,Bool.false_eq_true,if_false]
 rw [e]
 exact ⟨rfl,ho,hr⟩
theorem search_none {code text : Array Nat} {lim : Nat} (h : NoHit code text) (hl : lim ≤ text.size) (hf : ((match Sre.ops[code.getD 0 0]? with | some .INFO=>true | _=>false) && code.getD 2 0 == 4) = true) :
  (Sre.forSearch code text 0 0 lim false).answer = some false ∧ (Sre.forSearch code text 0 0 lim false).outcome = none ∧ (Sre.forSearch code text 0 0 lim false).frames = []:=by
 unfold Sre.forSearch
 dsimp only
 split
 ·exact ⟨rfl,rfl,rfl⟩
 ·exact attempt_none (m:=_) h hl hf rfl rfl
theorem run_none {m : Sre.M} (h1 : m.answer = some false) (h2 : m.outcome = none) (h3 : m.frames = []) : (m.runFor 4).outcome = some .failed:=by
 unfold Sre.M.runFor
 rw [h2]
 have e : m.step.outcome = some .failed:=by unfold Sre.M.step; rw [h2,h1,h3]; rfl
 show (Sre.M.runFor 3 m.step).outcome = _
 unfold Sre.M.runFor
 rw [e]
 exact e
section
variable {prog : Program} {w : World} {A : Around} {E : Value → Shared → Prop} {s : Shared}
open PySem.Builtin PySem.Builtin.Re
theorem rules_seen {m : Sre.M} {Q : PUnit → Shared → Prop} : ∀ (l : List Nat) (s : Shared),Q ⟨⟩ s → wpAny (model prog w) A (forIn l PUnit.unit fun (i : Nat) (_ : PUnit)=>do
  if m.seen.has i then rule (Sre.names.getD i "")
  pure (ForInStep.yield PUnit.unit)) Q E s
 | [],s,h=>by rw [List.forIn_nil]; exact wpAny_pure h
 | i :: l,s,h=>by
  rw [List.forIn_cons]
  refine wpAny_bind ?_
  dsimp only
  split
  ·exact wpAny_bind (wpAny_rule (wpAny_pure (rules_seen l s h)))
  ·exact wpAny_pure (rules_seen l s h)
theorem answer_none {t : ReTarget} {m : Sre.M} {Q : Fin → Shared → Prop} (h1 : m.answer = some false) (h2 : m.outcome = none) (h3 : m.frames = []) (h : Q (.done (.ret .none)) s) : wpAny (model prog w) A (reAnswer t m) Q E s:=by
 unfold reAnswer reRunToEnd
 have e:=run_none h1 h2 h3
 have d : reDrive (2 ^ 64) m = pure (m.runFor 4):=by
  show reDrive (18446744073709551615 + 1) m = _
  unfold reDrive
  show (if (m.runFor 4).outcome.isSome then pure (m.runFor 4) else _) = _
  rw [e]; rfl
 rw [d]
 refine wpAny_bind (wpAny_bind (wpAny_pure (wpAny_bind (rules_seen _ s ?_))))
 rw [e]
 exact wpAny_pure (wpAny_pure h)
theorem search_wp {pa c : Addr} {x : Str} {t : Tok} {op oc : Obj} {fs items : Array Value} {n : Nat} {Q : Value → Shared → Prop} (hp : s.heap.get? pa = some op) (hcl : op.cls = .type "re.Pattern") (hd : op.data = .fields fs) (h2 : reRawNat (fs.getD 2 .none) = 0) (h5 : fs.getD 5 .none = .ref c) (h6 : reRawNat (fs.getD 6 .none) = 0)
  (hc : s.heap.get? c = some oc) (hcd : oc.data = .seq items n) (no : NoHit ((items.map reRawOf).map (·.toNat)) x.cps) (hf : ((match (Sre.ops[((items.map reRawOf).map (·.toNat)).getD 0 0]? : Option Sre.Op) with | some Sre.Op.INFO=>true | _=>false) && ((items.map reRawOf).map (·.toNat)).getD 2 0 == 4) = true)
  (h : Q .none s) : wpAny (model prog w) A (call (.builtin "re.Pattern.search") [.ref pa,.str x t]) Q E s:=by
 refine wpAny_call_entry slot_search ⟨_,hp,hcl⟩ entry_search ?_ (args_search _ _)
 show wpAny _ _ (do
  let t ← reTarget "re.Pattern.search" "search" ⟨[.ref pa,.str x t],[]⟩
  reAnswer t (Sre.forSearch t.code t.text t.groups t.pos t.lim false)) _ _ _
 refine wpAny_bind ?_
 unfold reTarget
 dsimp only
 rw [named_search]
 refine wpAny_bind (wpAny_pure (wpAny_bind (wpAny_pure (wpAny_bind (wpAny_pure (wpAny_bind ?_))))))
 refine wpAny_bind (wpAny_load hp ?_)
 rw [hd]
 refine wpAny_pure (wpAny_bind (wpAny_bind (wpAny_pure (wpAny_pure ?_))))
 dsimp only
 rw [h6,h5,h2]
 simp only [show ((0 : Nat) == 0 && (0 : Nat) == 1) = false from rfl,show ((0 : Nat) == 1 && (0 : Nat) == 0) = false from rfl,Bool.false_eq_true,if_false]
 refine wpAny_bind (wpAny_pure ?_)
 refine wpAny_bind (wpAny_bind (wpAny_seqItems hc hcd (wpAny_pure (wpAny_pure ?_))))
 dsimp only [Option.getD_some]
 have hz : Min.min (Int.toNat 0) x.cps.size = 0:=by simp
 rw [hz]
 obtain ⟨a1,a2,a3⟩:=search_none (lim:=Min.min (2 ^ 63 - 1 : Int).toNat x.cps.size) no (Nat.min_le_right _ _) hf
 exact answer_none a1 a2 a3 ⟨_,rfl,h⟩
end
noncomputable def tPat : Ty (Array Nat):=⟨fun K v code=>∃ pa c op oc fs items n,v = .ref pa ∧ K pa = some op ∧ op.cls = .type "re.Pattern" ∧ op.dict = none ∧ op.data = .fields fs ∧ Builtin.Re.reRawNat (fs.getD 2 .none) = 0 ∧ fs.getD 5 .none = .ref c ∧ Builtin.Re.reRawNat (fs.getD 6 .none) = 0 ∧
  K c = some oc ∧ oc.data = .seq items n ∧ (items.map Builtin.Re.reRawOf).map (·.toNat) = code,fun hle h=>by
 obtain ⟨pa,c,op,oc,fs,items,n,a1,a2,a3,a4,a5,a6,a7,a8,a9,a10,a11⟩:=h
 exact ⟨pa,c,op,oc,fs,items,n,a1,hle _ _ a2,a3,a4,a5,a6,a7,a8,hle _ _ a9,a10,a11⟩⟩
noncomputable def firstSet (code : Array Nat) : Bool:=(match (Sre.ops[code.getD 0 0]? : Option Sre.Op) with | some Sre.Op.INFO=>true | _=>false) && code.getD 2 0 == 4
section
variable {G : Gl} {n : Nat} {env : Env} {mu mu₁ mu₂ mu₃ nu rest last W R : List Res} {K : KH} {A : Around} {s : Shared} {E : Value → Shared → Prop} {e l r o e' : Expr} {pos p apos : Pos} {name : Str} {a : Str} {code : Array Nat}
theorem mth_search : Mth G tPat code "search" (.builtin "re.Pattern.search"):=fun K mu v A s pl Q E h hs hq=>by
 obtain ⟨pa,c,op,oc,fs,items,n,rfl,a2,a3,a4,a5,a6,a7,a8,a9,a10,a11⟩:=h
 exact getMethod_builtin (T:="re.Pattern") ⟨_,hs.k _ _ a2,a3⟩ plainAttrs_pat slot_search type_search (fun b hb=>by cases hb; exact ⟨_,hs.k _ _ a2,a4⟩) hq
theorem cal_search (no : NoHit code a.cps) (hf : firstSet code = true) : Cal G n (.builtin "re.Pattern.search") [⟨tPat,code⟩,⟨tStr,a⟩] mu tNone () mu:=fun K vs hv nu A s hA hs=>by
 obtain ⟨v,r,rfl,h,hr⟩:=All2.cons_right hv
 obtain ⟨w,r',rfl,⟨t,rfl⟩,hr'⟩:=All2.cons_right hr
 have:=hr'.nil_right; subst this
 obtain ⟨pa,c,op,oc,fs,items,n,rfl,a2,a3,a4,a5,a6,a7,a8,a9,a10,a11⟩:=h
 have a11 : (items.map Builtin.Re.reRawOf).map (·.toNat) = code:=a11
 subst a11
 exact search_wp (hs.k _ _ a2) a3 a5 a6 a7 a8 (hs.k _ _ a9) a10 no hf ⟨K,mu,.refl K,hs,rfl,rfl⟩
theorem Ev.search (ho : Ev G n env mu o tPat code mu₁) (ha : Ev G n env mu₁ e tStr a mu₂) (no : NoHit code a.cps) (hf : firstSet code = true)
  (hst : starEach [e] env = [(false,eval e env)]:=by rfl) {pl : Sem Bool} (he : eval (.Call (.Attribute o "search" apos) [e] [] pos) env = (do
   let ov ← eval o env
   standAt apos.atName
   let (f,first) ← holding [ov] (getMethod ov "search" pl)
   callWith pos f first (backTo pos (starEach [e] env)) (backToKw pos (keywordEach [] env))):=by rfl) : Ev G n env mu (.Call (.Attribute o "search" apos) [e] [] pos) tNone () mu₂ :=
 ho.methB mth_search (.cons ha .nil hst) (cal_search no hf) (by rw [hst]; rfl) he
end
noncomputable def setO (es : Array (Int × Value)) (ep : Nat) (t : SetTable) : Obj:={ cls:=.type "set", dict:=none,data:=.set es ep t }
theorem orStandIn_led (t : SetTable) (n : Nat) : (t.orStandIn n).led = t.led ∧ (t.plain = false → (t.orStandIn n).plain = false):=by
 unfold SetTable.orStandIn
 split
 ·exact ⟨rfl,id⟩
 ·exact ⟨rfl,fun _=>rfl⟩
theorem layNew_led (t : SetTable) (es : Array (Int × Value)) (h : Int) (x : Value) : (layNew t es h x).2.1.led = t.led ∧ (t.plain = false → (layNew t es h x).2.1.plain = false):=by
 unfold layNew
 split
 ·rename_i slot d e
  exact orStandIn_led (t.put slot).1 _
 ·exact ⟨rfl,fun _=>rfl⟩
theorem laid_led {mask finger moves : Nat} {led plain : Bool} {hs : Array Int} {t : SetTable} {o : Array Nat} (h : SetTable.laid mask finger moves led plain hs = some (t,o)) : t.led = led ∧ t.plain = plain:=by
 unfold SetTable.laid at h
 simp only [Option.bind_eq_bind,Option.bind_eq_some_iff,Option.pure_def,Option.some.injEq,Prod.mk.injEq] at h
 obtain ⟨ow,_,e,_⟩:=h
 subst e
 exact ⟨rfl,rfl⟩
theorem relayAll_led (t : SetTable) (es : Array (Int × Value)) (n : Nat) : (relayAll t es n).2.1.led = t.led ∧ (t.plain = false → (relayAll t es n).2.1.plain = false):=by
 unfold relayAll
 split
 ·rename_i t' o e
  obtain ⟨e1,e2⟩:=laid_led e
  dsimp only
  split
  ·exact ⟨e1,fun h=>e2.trans h⟩
  ·exact ⟨rfl,fun _=>rfl⟩
 ·exact ⟨rfl,fun _=>rfl⟩
section
variable {prog : Program} {w : World} {A : Around} {E : Value → Shared → Prop} {s : Shared}
theorem store_set {a : Addr} {es es' : Array (Int × Value)} {ep : Nat} {t t' : SetTable} {Q : Unit → Shared → Prop} (ho : s.heap.get? a = some (setO es ep t)) (hz : es'.size < scanBound)
  (h : ∀ h',Heap.SameBut a s.heap h' → h'.get? a = some (setO es' (ep + 1) t') → Q () { s with heap:=h' }) : wpAny (model prog w) A (storeSet a es' t') Q E s:=by
 refine wpAny_storeSet_of ho rfl (h _ (Heap.SameBut.update ..) ?_) (fits_of_scanBound hz)
 have:=Heap.get?_update_self (Obj.putSet es' t') ho (by rw [putSet_of es' t' (show (setO es ep t).data = .set es ep t from rfl)]; rfl)
 rw [putSet_of es' t' (show (setO es ep t).data = .set es ep t from rfl)] at this
 exact this
theorem add_new {a : Addr} {es : Array (Int × Value)} {ep : Nat} {t : SetTable} {y : Str} {tk : Tok} {Q : Bool → Shared → Prop} (ho : s.heap.get? a = some (setO es ep t)) (hel : ElemsOf (PySem.strKind prog w) es.toList)
  (hy : ∀ e ∈ es.toList,(PySem.strKind prog w).is y e.2 = false) (hb : es.size + 1 < scanBound) (hf : t.fits es.size = true)
  (h : ∀ h' es' ep' t',Heap.SameBut a s.heap h' → h'.get? a = some (setO es' ep' t') → es'.toList.Perm (es.toList ++ [((PySem.strKind prog w).hash y,.str y tk)]) → t'.fits es'.size = true → t'.led = t.led → t'.plain = false → Q true { s with heap:=h' }) :
  wpAny (model prog w) A (setAddHashed a (.str y tk) ((PySem.strKind prog w).hash y)) Q E s:=by
 unfold setAddHashed setAddHashedIn
 refine wpAny_holding (wpAny_bind (wpAny_setState_of ho rfl hf ?_))
 dsimp only
 rw [byScan_of (knd:=PySem.strKind prog w) rfl (by lia) hel]
 simp only [↓reduceIte]
 unfold setAddByScan
 refine wpAny_bind (wpAny_bind (wpAny_rule (wpAny_bind (wpAny_setScan_of (knd:=PySem.strKind prog w) (strKind_is prog w y tk) ho rfl hf hel ?_))))
 rw [List.findIdx?_eq_none_iff.mpr fun e he=>by rw [hy e he]]
 dsimp only
 have hperm:=layNew_perm t es ((PySem.strKind prog w).hash y) (.str y tk)
 have hfits:=layNew_fits t es ((PySem.strKind prog w).hash y) (.str y tk)
 obtain ⟨hled,hpl⟩:=layNew_led t es ((PySem.strKind prog w).hash y) (.str y tk)
 generalize layNew t es ((PySem.strKind prog w).hash y) (.str y tk) = L at hperm hfits hled hpl ⊢
 obtain ⟨es1,t1,dm,gave⟩:=L
 dsimp only at hperm hfits hled hpl ⊢
 rw [Array.toList_push] at hperm
 have hsz : es1.size = es.size + 1:=by rw [← Array.length_toList,hperm.length_eq,List.length_append,Array.length_toList]; rfl
 have gw : ∀ (b : Bool) {s₁ : Shared} {Q' : Unit → Shared → Prop},Q' () s₁ → wpAny (model prog w) A (match b with | true=>rule "set.scan.the-table-gave-way" | false=>pure ()) Q' E s₁ :=
  fun b s₁ Q' hq=>by cases b <;> first | exact wpAny_pure hq | exact wpAny_rule hq
 refine wpAny_bind (gw _ ?_)
 have tail : ∀ (t2 : SetTable),t2.fits es1.size = true → t2.led = t.led → t2.plain = false → wpAny (model prog w) A (do
    storeSet a es1 t2
    if (!dm && t2.tooFull) = true then do
      (match (relayAll t2 es1 (SetTable.grown es1.size)).2.2 with | true=>rule "set.scan.the-table-gave-way" | false=>pure ())
      storeSet a (relayAll t2 es1 (SetTable.grown es1.size)).1 (relayAll t2 es1 (SetTable.grown es1.size)).2.1
      pure (some true)
     else pure (some true)) (fun r s'=>wpAny (model prog w) A (match r with | some added=>pure added | none=>setAddHashedIn a (.str y tk) ((PySem.strKind prog w).hash y) 99999) Q E s') E s:=by
  intro t2 f2 l2 p2
  refine wpAny_bind (store_set ho (by lia) fun h1 sb1 g1=>?_)
  split
  ·have hp:=relayAll_perm t2 es1 (SetTable.grown es1.size)
   have hfr:=relayAll_fits t2 es1 (SetTable.grown es1.size)
   obtain ⟨l3,p3⟩:=relayAll_led t2 es1 (SetTable.grown es1.size)
   generalize relayAll t2 es1 (SetTable.grown es1.size) = Rl at hp hfr l3 p3 ⊢
   obtain ⟨es2,t3,g2⟩:=Rl
   dsimp only at hp hfr l3 p3 ⊢
   refine wpAny_bind (gw _ ?_)
   have hz2 : es2.size = es1.size:=by rw [← Array.length_toList,hp.length_eq,Array.length_toList]
   refine wpAny_bind (store_set g1 (by lia) fun h2 sb2 g2=>wpAny_pure (wpAny_pure ?_))
   exact h h2 es2 _ t3 (sb1.trans sb2) g2 (hp.trans hperm) hfr (l3.trans l2) (p3 p2)
  ·exact wpAny_pure (wpAny_pure (h h1 es1 _ t2 sb1 g1 hperm f2 l2 p2))
 have hv : hashByValue 8 (.str y tk) = pure false:=hashByValue_scannable 8 (x:=.str y tk) rfl
 by_cases hp1 : t1.plain = true
 ·rw [hp1,if_pos rfl,hv]
  refine wpAny_bind (wpAny_pure ?_)
  exact tail { t1 with plain:=false } (SetTable.fits_plain_off hfits) hled rfl
 ·rw [if_neg hp1]
  refine wpAny_bind (wpAny_pure ?_)
  exact tail t1 hfits hled (by simpa using hp1)
end
noncomputable def keyOf (e : Int × Value) : Str:=match e.2 with | .str y _=>y | _=>Str.empty
noncomputable def byText (G : Gl) : Bool:=G.w.params.followText "set-order"
structure SetIs (G : Gl) (es : Array (Int × Value)) (t : SetTable) (xs : List Str) : Prop where
 el : ∀ e ∈ es.toList,∃ y k,e.2 = .str y k ∧ e.1 = (PySem.strKind G.prog G.w).hash y
 ks : (es.toList.map keyOf).Perm xs
 fits : t.fits es.size = true
 small : es.size < scanBound
 led : xs ≠ [] → t.led = !byText G
 plain : xs ≠ [] → t.plain = false
noncomputable def rSet (G : Gl) (a : Addr) (xs : List Str) : Res:=⟨a,fun _ o=>∃ es ep t,o = setO es ep t ∧ SetIs G es t xs ∧ t.led = !byText G,fun _ h=>h⟩
noncomputable def tSet (G : Gl) : Ty (List Str):=⟨fun K v xs=>∃ a es ep t,v = .ref a ∧ K a = some (setO es ep t) ∧ SetIs G es t xs,fun hle h=>let ⟨a,es,ep,t,e,k,i⟩:=h; ⟨a,es,ep,t,e,hle _ _ k,i⟩⟩
theorem SetIs.elems {G : Gl} {es : Array (Int × Value)} {t : SetTable} {xs : List Str} (h : SetIs G es t xs) : ElemsOf (PySem.strKind G.prog G.w) es.toList:=fun e he=>by
 obtain ⟨y,k,e1,e2⟩:=h.el e he
 exact ⟨⟨y,by rw [e1]; exact strKind_is _ _ _ _,e2⟩,by rw [e1]; rfl⟩
theorem SetIs.size {G : Gl} {es : Array (Int × Value)} {t : SetTable} {xs : List Str} (h : SetIs G es t xs) : es.size = xs.length:=by
 have:=h.ks.length_eq
 simpa using this
theorem is_key {G : Gl} {e : Int × Value} {y : Str} (h : ∃ z k,e.2 = .str z k) : (PySem.strKind G.prog G.w).is y e.2 = decide (keyOf e = y):=by
 obtain ⟨z,k,e1⟩:=h
 unfold keyOf
 rw [e1]
 show Value.isStrOf y (.str z k) = _
 show (z == y) = _
 exact strB z y
section
variable {G : Gl} {n : Nat} {mu nu : List Res} {K : KH} {A : Around} {s : Shared} {E : Value → Shared → Prop}
theorem set_newX {a : Value} {R : Result → Shared → Prop} (h : R (.ok (.ret (.ref s.heap.objs.size))) { s with heap:=s.heap.push (setO #[] 0 (.fresh 0 0 (!byText G))) }) :
  codeAny G.M A (.call (.builtin "set.__new__") ⟨[.type "set", a],[]⟩) R s:=by
 refine codeAny_of_tree ?_
 show wpAny _ A.in1 (do checkBuiltinCall "set.__new__" ⟨[.type "set", a],[]⟩; again (.builtin "set.__new__" ⟨[.type "set", a],[]⟩)) _ _ s
 refine wpAny_bind (wpAny_of_eq (PySem.F.newCall_set_1 a) (wpAny_pure ⟨plainId_quiet PySem.F.plain_set_new _,codeAny_builtin PySem.F.entry_set_new ?_⟩))
 rw [Around.under_plainId PySem.F.plain_set_new _]
 unfold Builtin.«set.__new__» Builtin.Frozenset.newClass
 have hsub:=sub_set_self
 obtain ⟨hp,g,d,tk,os⟩:=s
 dsimp only
 wp_walk
 refine wpAny_askSetting (wpAny_pure ?_)
 dsimp only
 simp only [newObj]
 refine wpAny_bind (wpAny_alloc (wpAny_pure ?_))
 exact wpAny_pure h
theorem set_loop {S I l : Addr} {vs : List Value} {m : Nat} {xs : List Str} {R : Result → Shared → Prop} (hh : A.handled = none) (hk : K l = some (listO vs m)) (hv : All2 (tStr.rel K) vs xs) (hn : xs.Nodup) (hb : xs.length + 1 < scanBound)
  (hR : ∀ s',Own G K (rSet G S xs :: nu) s' → R (.ok (.ret .none)) s') : ∀ (j k : Nat) (s : Shared),xs.length - k = j → k ≤ xs.length → Own G K (rIter I l k :: rSet G S (xs.take k) :: nu) s →
   codeAny G.M A (.builtin "set.update.loop" ⟨[.ref S,.ref I],[]⟩) R s:=by
 intro j
 induction j with
 | zero =>
  intro k s hj hkl hs
  have : k = xs.length:=by lia
  subst this
  refine codeAny_builtin PyProof.Rows.F.entry_set_update_loop ?_
  rw [Around.under_plainId PyProof.Rows.F.plain_set_update_loop _]
  show wpAny _ A.in1 (pyNext (.ref I) >>= _) _ _ s
  obtain ⟨o,e,hp⟩:=hs.get (r:=rIter I l xs.length) List.mem_cons_self
  refine wpAny_bind (wpAny_pyNext_list_end hh (IsListIter.of e hp) (isList_of (hs.k _ _ hk)) (by simp [hv.length]) fun h' hx=>?_)
  show wpAny _ A.in1 (ret Value.none) _ _ _
  have o1:=Own.drop (s':={ s with heap:=h' }) hs hx rfl rfl
  rw [List.take_length] at o1
  exact wpAny_pure (hR _ o1)
 | succ j ih =>
  intro k s hj hkl hs
  have hlt : k < xs.length:=by lia
  have hx : xs[k]? = some xs[k]:=List.getElem?_eq_getElem hlt
  obtain ⟨v,hvk,tk,rfl⟩:=hv.get hx
  refine codeAny_builtin PyProof.Rows.F.entry_set_update_loop ?_
  rw [Around.under_plainId PyProof.Rows.F.plain_set_update_loop _]
  show wpAny _ A.in1 (pyNext (.ref I) >>= _) _ _ s
  obtain ⟨o,e,hp⟩:=hs.get (r:=rIter I l k) List.mem_cons_self
  refine wpAny_bind (wpAny_pyNext_list_item (IsListIter.of e hp) (isList_of (hs.k _ _ hk)) (by simpa using hvk) fun h' hi hs'=>?_)
  obtain ⟨o',e',c',d'⟩:=hi
  have o1:=Own.change (t:=s.toks) (r':=rIter I l (k + 1)) hs rfl hs' e' ⟨c',d'⟩
  have o2:=(o1.perm (List.Perm.swap ..)).toks (s.toks + 1) (Nat.le_succ _)
  obtain ⟨ob,e2,es,ep,t,rfl,hS,hled⟩:=o2.get List.mem_cons_self
  show wpAny _ A.in1 (holding [Value.str xs[k] tk] (setAdd S (.str xs[k] tk)) >>= _) _ _ _
  refine wpAny_bind (wpAny_holding ?_)
  unfold setAdd
  refine wpAny_holding (wpAny_bind ((PySem.strKind G.prog G.w).pyHash (k:=xs[k]) (strKind_is _ _ _ _) ?_))
  have hni : xs[k] ∉ xs.take k:=fun hm=>by
   obtain ⟨i,hi,e⟩:=List.getElem_of_mem hm
   rw [List.getElem_take] at e
   rw [List.length_take] at hi
   have:=(List.getElem_inj hn).mp e
   lia
  refine add_new (s:={ s with heap:=h',toks:=s.toks + 1 }) e2 hS.elems (fun e he=>?_) (by rw [hS.size,List.length_take]; lia) hS.fits fun h2 es2 ep2 t2 sb g2 hp2 hf2 hl2 hpl2=>?_
  ·rw [is_key (by obtain ⟨y,q,a1,_⟩:=hS.el e he; exact ⟨y,q,a1⟩),decide_eq_false_iff_not]
   intro e'
   exact hni (e' ▸ hS.ks.mem_iff.mp (List.mem_map.mpr ⟨e,he,rfl⟩))
  ·refine wpAny_pure ⟨plainId_quiet PyProof.Rows.F.plain_set_update_loop _,ih (k + 1) _ (by lia) (by lia) ?_⟩
   have o3:=Own.change (t:=s.toks + 1) (r':=rSet G S (xs.take (k + 1))) o2 rfl sb g2 ⟨es2,ep2,t2,rfl,⟨fun e he=>?_,?_,hf2,?_,fun _=>hl2.trans hled,fun _=>hpl2⟩,hl2.trans hled⟩ (Nat.le_refl _)
   ·exact o3.perm (List.Perm.swap ..)
   ·rcases List.mem_append.mp (hp2.mem_iff.mp he) with he | he
    ·exact hS.el e he
    ·rw [List.mem_singleton] at he; subst he; exact ⟨_,_,rfl,rfl⟩
   ·refine (hp2.map keyOf).trans ?_
    rw [List.map_append,List.take_add_one,hx]
    exact hS.ks.append_right _
   ·have:=hp2.length_eq
    rw [Array.length_toList,List.length_append,Array.length_toList,hS.size,List.length_take] at this
    rw [this]
    simp only [List.length_singleton]
    lia
theorem cal_set0 : Cal G n (.type "set") [] mu (tSet G) [] mu:=fun K vs hv nu A s hA hs=>by
 have:=All2.nil_right hv; subst this
 refine call_set_0 fun led=>?_
 exact ⟨_,mu,kput_le hs.fresh,hs.push (setO #[] 0 (.fresh 0 0 led)),rfl,_,_,_,_,rfl,kput_self ..,fun e he=>by simp at he,.refl _,rfl,by decide,fun h=>absurd rfl h,fun h=>absurd rfl h⟩
set_option maxHeartbeats 3200000 in
theorem cal_set1 {xs : List Str} (hn : xs.Nodup) (hb : xs.length + 1 < scanBound) : Cal G n (.type "set") [⟨tList tStr,xs⟩] mu (tSet G) xs mu:=fun K vs hv nu A s hA hs=>by
 obtain ⟨v,r,rfl,⟨l,ws,m,rfl,hk,hw⟩,hr⟩:=All2.cons_right hv
 have:=hr.nil_right; subst this
 have hw : All2 (tStr.rel K) ws xs:=hw
 obtain ⟨c,tl,hmro⟩:=PySem.F.called_set.mro
 have hmade:=PySem.F.called_set.made
 have hsub:=PySem.F.called_set.sub
 refine wpAny_call (codeAny_of_tree ?_)
 show wpAny _ _ (callAny (.type "set") _) _ _ _
 refine wpAny_pure ⟨Code.quiet_builtin _ (by decide +kernel),codeAny_builtin PySem.F.entry_type_call ?_⟩
 rw [Around.under_plain (weight_type_call_type "set" [.ref l] []) rfl]
 have h1:=PySem.F.called_set.notType
 have h2:=PySem.F.called_set.canCreate
 have hct:=PySem.F.typeCall_set_1 (.ref l)
 repeat (any_goals (first | assumption | wp_step))
 refine codeAny_mono (set_newX (G:=G) (a:=.ref l) (R:=fun r s₁=>r = .ok (.ret (.ref s.heap.objs.size)) ∧ s₁ = { s with heap:=s.heap.push (setO #[] 0 (.fresh 0 0 (!byText G))) }) ⟨rfl,rfl⟩) fun r s₁ hr=>?_
 obtain ⟨rfl,rfl⟩:=hr
 have hS : (s.heap.push (setO #[] 0 (.fresh 0 0 (!byText G)))).get? s.heap.objs.size = some (setO #[] 0 (.fresh 0 0 (!byText G))):=Heap.get?_push_size _ rfl
 have hT : Shared.TypeIs { s with heap:=s.heap.push (setO #[] 0 (.fresh 0 0 (!byText G))) } (.ref s.heap.objs.size) "set" := ⟨_,hS,rfl⟩
 have hli:=PySem.F.called_set.init.lookup
 have hbi:=PySem.F.called_set.init.bind (.ref s.heap.objs.size)
 repeat (any_goals (first | assumption | wp_step))
 refine codeAny_mono (R:=fun r s'=>r = .ok (.ret .none) ∧ Own G K (rSet G s.heap.objs.size xs :: (mu ++ nu)) s') ?_ fun r₂ s₂ hr₂=>?_
 ·refine codeAny_call_builtin PySem.F.called_set.init.plain PySem.F.entry_set_init (check_set_init_1 hT ?_)
  have o1:=hs.pushOwned (setO #[] 0 (.fresh 0 0 (!byText G))) (rSet G s.heap.objs.size []) rfl ⟨_,_,_,rfl,⟨fun e he=>by simp at he,.refl _,rfl,by decide,fun _=>rfl,fun h=>absurd rfl h⟩,rfl⟩
  have hol:=hs.k _ _ hk
  have hol' : (s.heap.push (setO #[] 0 (.fresh 0 0 (!byText G)))).get? l = some (listO ws m):=Heap.get?_push_of_some _ hol
  have hsls:=PySem.F.sub_list_set
  have hslf:=PySem.F.sub_list_frozenset
  have hne : (Value.type "list" == Value.type "dict") = false:=by decide
  unfold listO at hol'
  unfold Builtin.«set.__init__» noKeywords Builtin.Frozenset.updateFrom
  generalize hPI : pyIter = PI
  wp_walk
  subst hPI
  refine wpAny_pyIter_list (isList_of (vs:=ws) (n:=m) hol') ?_
  refine wpAny_bind (wpAny_runValue ?_)
  have o2:=o1.pushOwned { cls:=.type "list_iterator", data:=.fields #[.ref l,.int 0 0] } (rIter (s.heap.push (setO #[] 0 (.fresh 0 0 (!byText G)))).objs.size l 0) rfl ⟨rfl,rfl⟩
  refine set_loop (A:=A.in1.in1) (nu:=mu ++ nu) (xs:=xs) hA.1 hk hw hn hb (fun s' o3=>?_) (xs.length - 0) 0 _ rfl (Nat.zero_le _) o2
  show wpAny _ _ _ _ _ _
  exact wpAny_pure (wpAny_pure ⟨rfl,o3⟩)
 ·obtain ⟨rfl,o3⟩:=hr₂
  obtain ⟨ob,⟨es,ep,t,rfl,hS,_⟩,hkn,o4⟩:=o3.freeze
  have hle:=kput_le (o:=setO es ep t) hkn
  repeat (any_goals (first | assumption | wp_step))
  exact ⟨_,mu,hle,o4,rfl,_,_,_,_,rfl,kput_self ..,hS⟩
end
section
variable {G : Gl} {n : Nat} {env : Env} {mu nu : List Res} {K : KH} {A : Around} {s : Shared} {E : Value → Shared → Prop}
theorem SetIs.setOf {a : Addr} {es : Array (Int × Value)} {ep : Nat} {t : SetTable} {xs : List Str} {h : Heap} (hS : SetIs G es t xs) (e : h.get? a = some (setO es ep t)) : h.SetOf (PySem.strKind G.prog G.w) a (fun k=>decide (k ∈ xs)) es.size :=
 ⟨_,es,ep,t,e,⟨rfl,rfl,rfl⟩,rfl,hS.elems,fun k=>by
  rw [decide_eq_true_eq,← hS.ks.mem_iff,List.mem_map]
  constructor
  ·rintro ⟨e,he,hk⟩
   obtain ⟨y,q,a1,_⟩:=hS.el e he
   exact ⟨e,he,by rw [is_key ⟨y,q,a1⟩,hk]; simp⟩
  ·rintro ⟨e,he,hk⟩
   obtain ⟨y,q,a1,_⟩:=hS.el e he
   rw [is_key ⟨y,q,a1⟩,decide_eq_true_eq] at hk
   exact ⟨e,he,hk⟩,hS.small,hS.fits,rfl⟩
theorem cmp_inSet {x : Str} {xs : List Str} : Cmp G .In tStr x (tSet G) xs (decide (x ∈ xs)):=fun n K mu v w ⟨tk,e1⟩ ⟨a,es,ep,t,e2,hk,hS⟩ nu A s hA hs=>by
 subst e1 e2
 exact wpAny_inSet_of (knd:=PySem.strKind G.prog G.w) (strKind_is _ _ _ _) rfl (hS.setOf (hs.k _ _ hk)) (done (.refl K) (hs.toks _) rfl)
end
section
variable {prog : Program} {w : World} {A : Around} {E : Value → Shared → Prop} {s : Shared} {α : Type}
theorem wp_choose {src : Source} {n : Nat} {M : Model} {Q : Nat → Shared → Prop} (hn : n ≠ 0) (h : ∀ i d,i < n → Q i { s with drawn:=d }) : wpAny M A (choose src n) Q E s:=fun _ _ _=>⟨hn,h _ _ (Nat.mod_lt _ (Nat.pos_of_ne_zero hn))⟩
theorem erase_perm : ∀ {xs : List α} {i : Nat} {x : α},xs[i]? = some x → xs.Perm (x :: xs.eraseIdx i)
 | [],i,x,h=>by simp at h
 | y :: xs,0,x,h=>by simp at h; subst h; exact .refl _
 | y :: xs,i + 1,x,h=>by rw [List.getElem?_cons_succ] at h; exact ((erase_perm h).cons y).trans (List.Perm.swap ..)
theorem draw_order {M : Model} : ∀ (n : Nat) (xs : List α) (s : Shared) (Q : List α → Shared → Prop),n = xs.length → (∀ ys d,ys.Perm xs → Q ys { s with drawn:=d }) → wpAny M A (drawOrder n xs) Q E s
 | 0,xs,s,Q,hn,h=>by
  have : xs = []:=List.length_eq_zero_iff.mp hn.symm
  subst this
  unfold drawOrder
  exact wpAny_pure (h [] s.drawn (.refl _))
 | n + 1,[],s,Q,hn,h=>by simp at hn
 | n + 1,x :: xs,s,Q,hn,h=>by
  unfold drawOrder
  refine wpAny_bind (wp_choose (by simp) fun i d hi=>?_)
  have hx : (x :: xs)[i]? = some (x :: xs)[i]:=List.getElem?_eq_getElem hi
  rw [hx]
  dsimp only
  have hp:=erase_perm hx
  refine wpAny_bind (draw_order n _ _ _ (by rw [List.length_eraseIdx_of_lt hi]; simp at hn ⊢; lia) fun ys d' hy=>wpAny_pure ?_)
  exact h (_ :: ys) d' ((hy.cons _).trans hp.symm)
theorem pick_perm (next : Nat → Nat) : ∀ (fuel k : Nat) (left : List α) (out : Array α),left.length ≤ fuel → (pickOrder.go next fuel k left out).toList.Perm (out.toList ++ left)
 | 0,k,left,out,h=>by
  have : left = []:=List.length_eq_zero_iff.mp (by lia)
  subst this
  unfold pickOrder.go
  simp
 | fuel + 1,k,[],out,h=>by
  unfold pickOrder.go
  simp
 | fuel + 1,k,x :: left,out,h=>by
  unfold pickOrder.go
  have hi : next k % (x :: left).length < (x :: left).length:=Nat.mod_lt _ (by simp)
  have hx : (x :: left)[next k % (x :: left).length]? = some (x :: left)[next k % (x :: left).length]:=List.getElem?_eq_getElem hi
  rw [hx]
  dsimp only
  refine (pick_perm next fuel (k + 1) _ _ (by rw [List.length_eraseIdx_of_lt hi]; simp at h ⊢; lia)).trans ?_
  rw [Array.toList_push,List.append_assoc]
  exact (erase_perm hx).symm.append_left _
theorem pickOrder_perm (next : Nat → Nat) (xs : Array α) : (pickOrder next xs).toList.Perm xs.toList:=by
 have:=pick_perm next xs.size 0 xs.toList #[] (by simp)
 simpa [pickOrder] using this
end
theorem entry_set_iter : entryFor table "set.__iter__" = some Builtin.«frozenset.__iter__»:=entryFor_alias (id':="frozenset.__iter__") (by kernel_rfl) rfl (by decide +kernel) (by kernel_rfl)
theorem slot_si_next : Slot "set_iterator" "__next__" "set_iterator.__next__" :=
 .of (owner:="set_iterator") (n:="__next__") (by rw [typeLookup_type,builtinLookup_eq_fast]; kernel_rfl) (by decide +kernel) (by decide +kernel) (by decide +kernel)
  (by first | exact .inl (by decide +kernel) | exact .inr (by decide +kernel)) (by rw [isSubtype_type]; kernel_rfl)
theorem entry_si_next : entryFor table "set_iterator.__next__" = some Builtin.«set_iterator.__next__»:=entryFor_of_tree (by kernel_rfl)
theorem args_si_next (a : Value) : argsOk "set_iterator.__next__" ⟨[a],[]⟩:=by unfold argsOk; kernel_rfl
section
variable {G : Gl} {n : Nat} {env : Env} {mu nu : List Res} {K : KH} {A : Around} {s : Shared} {E : Value → Shared → Prop}
noncomputable def siO (first : Value) (i : Nat) (S : Value) (n ep : Nat) : Obj:={ cls:=.type "set_iterator", data:=.fields #[first,rawInt i,S,rawInt n,rawInt ep] }
theorem set_si {it : Addr} {o o' : Obj} {j : Nat} {v : Value} {vs : Array Value} {M : Model} {Q : Unit → Shared → Prop} (ho : s.heap.get? it = some o) (hd : o.data = .fields vs) (hj : j < vs.size) (he : Obj.mapFields (·.setIfInBounds j v) o = o') (hf : o'.isFreed = false)
  (h : ∀ h',Heap.SameBut it s.heap h' → h'.get? it = some o' → Q () { s with heap:=h' }) : wpAny M A (setField (.ref it) j v) Q E s :=
 wpAny_setField ho hd hj (h _ (Heap.SameBut.update ..) (by rw [← he]; exact Heap.get?_update_self _ ho (by rw [he]; exact hf)))
theorem si_item {it S : Addr} {es : Array (Int × Value)} {ep i : Nat} {t : SetTable} {first first' : Value} {x : Value} {Q : Option Value → Shared → Prop} (ho : s.heap.get? it = some (siO first i (.ref S) es.size ep)) (hS : s.heap.get? S = some (setO es ep t)) (hf : t.fits es.size = true)
  (hx : (∃ slot tk,first = .int slot tk ∧ ∃ nx : Nat,first' = rawInt nx ∧ ∀ (Q' : Option (Value × Nat) → Shared → Prop) E',Q' (some (x,nx)) s → wpAny G.M A.in1 (setNext S slot.toNat i ep) Q' E' s) ∨
   (∃ p op ps m j tk q,first = .ref p ∧ first' = first ∧ s.heap.get? p = some op ∧ op.data = .seq ps m ∧ ps[i]? = some (.int j tk) ∧ es[j.toNat]? = some (q,x)))
  (hQ : ∀ h',Heap.SameBut it s.heap h' → h'.get? it = some (siO first' (i + 1) (.ref S) es.size ep) → Q (some x) { s with heap:=h' }) : wpAny G.M A (pyNext (.ref it)) Q E s:=by
 unfold pyNext
 refine wpAny_bind (wpAny_attempt (wpAny_callSpecial?_slot (name:=Str.ofString "__next__") (T:="set_iterator") ⟨_,ho,rfl⟩ slot_si_next
  (wpAny_call_entry slot_si_next (T:="set_iterator") ⟨_,ho,rfl⟩ entry_si_next ?_ (args_si_next _))))
 unfold Builtin.«set_iterator.__next__»
 refine wpAny_bind (wpAny_pure ?_)
 refine wpAny_bind (wpAny_bind (wpAny_load ho (wpAny_pure ?_)))
 show wpAny _ _ (setEntries S >>= _) _ _ _
 refine wpAny_bind (wpAny_setEntries_of hS rfl hf ?_)
 rw [show ((es.size : Int) != (es.size : Int)) = false from bne_self_eq_false _]
 dsimp only
 simp only [Bool.false_eq_true,if_false,Int.toNat_natCast]
 rcases hx with ⟨slot,tk,rfl,nx,rfl,hx⟩ | ⟨p,op,ps,m,j,tk,q,rfl,rfl,hp,hpd,hpi,hej⟩
 ·dsimp only
  refine wpAny_bind (hx _ _ ?_)
  dsimp only
  refine wpAny_bind (set_si ho rfl (by simp) (o':=siO (rawInt nx) i (.ref S) es.size ep) rfl rfl fun h1 sb1 g1=>?_)
  refine wpAny_bind (set_si g1 rfl (by simp) (o':=siO (rawInt nx) (i + 1) (.ref S) es.size ep) rfl rfl fun h2 sb2 g2=>?_)
  exact wpAny_pure ⟨_,rfl,wpAny_pure (hQ _ (sb1.trans sb2) g2)⟩
 ·dsimp only
  refine wpAny_bind (wpAny_seqItems hp hpd ?_)
  dsimp only
  rw [hpi]
  dsimp only
  refine wpAny_bind ?_
  unfold setNextDrawn
  refine wpAny_bind (wpAny_setState_of hS rfl hf ?_)
  dsimp only
  rw [bne_self_eq_false]
  simp only [Bool.false_eq_true,if_false]
  rw [hej]
  refine wpAny_pure ?_
  refine wpAny_bind (set_si ho rfl (by simp) (o':=siO (.ref p) (i + 1) (.ref S) es.size ep) rfl rfl fun h2 sb2 g2=>?_)
  exact wpAny_pure ⟨_,rfl,wpAny_pure (hQ _ sb2 g2)⟩
theorem raise_stop {it : Addr} {h0 : Heap} {Q : Option Value → Shared → Prop} {Q0 : Fin → Shared → Prop} (hh : A.handled = none) (hx : Heap.SameBut it h0 s.heap) (hQ : ∀ h',Heap.ExtBut it h0 h' → Q none { s with heap:=h' }) :
  wpAny G.M A.in1 (newExc (.type "StopIteration") [] >>= fun e=>(raiseNew e : Sem Fin)) Q0 (fun e s'=>wpAny G.M A (do
     let b ← isInstance e (Value.type "StopIteration")
     if b = true then pure none else throw e) Q E s') s:=by
 refine wpAny_bind ?_
 simp only [newExc,newTuple]
 refine wpAny_bind (wpAny_newObj_type ?_ (by size_fits))
 refine wpAny_bind (m:=firstArgMember _ _) (wpAny_of_eq (a:=Value.none) (by first | rfl | (simp only [firstArgMember]; rfl)) ?_)
 refine wpAny_newObj_type ?_ (by size_fits)
 simp only [raiseNew]
 refine wpAny_bind (wpAny_handled ?_)
 rw [show A.in1.handled = none from hh]
 refine wpAny_bind (wpAny_pure (wpAny_throw ?_))
 refine wpAny_bind (wpAny_isInstance (T:="StopIteration") (b:=true) ⟨_,Heap.get?_push_size _ rfl,rfl⟩ isSubtype_stop ?_)
 exact wpAny_pure (hQ _ ((hx.extBut.push _).push _))
theorem si_end {it S : Addr} {es : Array (Int × Value)} {ep i : Nat} {t : SetTable} {first : Value} {Q : Option Value → Shared → Prop} (hh : A.handled = none) (ho : s.heap.get? it = some (siO first i (.ref S) es.size ep)) (hS : s.heap.get? S = some (setO es ep t)) (hf : t.fits es.size = true)
  (hx : (∃ slot tk,first = .int slot tk ∧ ∀ (Q' : Option (Value × Nat) → Shared → Prop) E',Q' none s → wpAny G.M A.in1 (setNext S slot.toNat i ep) Q' E' s) ∨
   (∃ p op ps m,first = .ref p ∧ s.heap.get? p = some op ∧ op.data = .seq ps m ∧ ps[i]? = none))
  (hQ : ∀ h',Heap.ExtBut it s.heap h' → Q none { s with heap:=h' }) : wpAny G.M A (pyNext (.ref it)) Q E s:=by
 unfold pyNext
 refine wpAny_bind (wpAny_attempt (wpAny_callSpecial?_slot (name:=Str.ofString "__next__") (T:="set_iterator") ⟨_,ho,rfl⟩ slot_si_next
  (wpAny_call_entry slot_si_next (T:="set_iterator") ⟨_,ho,rfl⟩ entry_si_next ?_ (args_si_next _))))
 unfold Builtin.«set_iterator.__next__»
 refine wpAny_bind (wpAny_pure ?_)
 refine wpAny_bind (wpAny_bind (wpAny_load ho (wpAny_pure ?_)))
 show wpAny _ _ (setEntries S >>= _) _ _ _
 refine wpAny_bind (wpAny_setEntries_of hS rfl hf ?_)
 rw [show ((es.size : Int) != (es.size : Int)) = false from bne_self_eq_false _]
 dsimp only
 simp only [Bool.false_eq_true,if_false,Int.toNat_natCast]
 rcases hx with ⟨slot,tk,rfl,hx⟩ | ⟨p,op,ps,m,rfl,hp,hpd,hpi⟩
 ·dsimp only
  refine wpAny_bind (hx _ _ ?_)
  dsimp only
  refine wpAny_bind (set_si ho rfl (by simp) (o':=siO (.int slot tk) i .none es.size ep) rfl rfl fun h1 sb1 g1=>?_)
  exact raise_stop hh sb1 hQ
 ·dsimp only
  refine wpAny_bind (wpAny_seqItems hp hpd ?_)
  dsimp only
  rw [hpi]
  dsimp only
  refine wpAny_bind (set_si ho rfl (by simp) (o':=siO (rawInt 0) i (.ref S) es.size ep) rfl rfl fun h1 sb1 g1=>?_)
  refine wpAny_bind (set_si g1 rfl (by simp) (o':=siO (rawInt 0) i .none es.size ep) rfl rfl fun h2 sb2 g2=>?_)
  exact raise_stop hh (sb1.trans sb2) hQ
end
structure ItN (G : Gl) (K : KH) (t : Expr) {α : Type} (T : Ty α) (it : Addr) (xs : List α) (R : Nat → List Res) (last : List Res) : Prop where
 item : ∀ (n : Nat) (K' : KH) (k : Nat) (x : α),KLe K K' → xs[k]? = some x → Tri G n K' (R k) (pyNext (.ref it)) fun K1 mu1 o=>∃ v,o = some v ∧ T.rel K1 v x ∧ Tri G n K1 mu1 (letOwnedTupleGo t (.ref it) v) fun _ mu2 _=>mu2 = R (k + 1)
 stop : ∀ (n : Nat) (K' : KH),KLe K K' → Tri G n K' (R xs.length) (pyNext (.ref it)) fun _ mu1 o=>o = none ∧ mu1 = last
section
variable {G : Gl} {n : Nat} {env : Env} {mu nu : List Res} {K : KH} {A : Around} {s : Shared} {E : Value → Shared → Prop}
noncomputable def rSi (it : Addr) (first : Value) (i : Nat) (S : Addr) (n ep : Nat) : Res:=rObj it (siO first i (.ref S) n ep)
theorem next_text {S : Addr} {es : Array (Int × Value)} {ep i : Nat} {t : SetTable} {slot : Nat} {Q : Option (Value × Nat) → Shared → Prop} (hS : s.heap.get? S = some (setO es ep t)) (hf : t.fits es.size = true) (hb : byText G = true)
  (h : Q (((pickOrder (G.w.params.setOrder S ep) es)[i]?).map fun e=>(e.2,slot)) s) : wpAny G.M A (setNext S slot i ep) Q E s:=by
 unfold setNext setsByText
 refine wpAny_bind (wpAny_setState_of hS rfl hf ?_)
 dsimp only
 refine wpAny_bind (wpAny_bind (wpAny_askSetting (wpAny_pure ?_)))
 rw [show G.M.w.params.followText "set-order" = true from hb]
 simp only [if_true,bne_self_eq_false,Bool.false_eq_true,if_false]
 unfold setWalk setsByText
 refine wpAny_bind (wpAny_bind (wpAny_setState_of hS rfl hf ?_))
 dsimp only
 refine wpAny_bind (wpAny_bind (wpAny_askSetting (wpAny_pure ?_)))
 rw [show G.M.w.params.followText "set-order" = true from hb]
 simp only [if_true]
 refine wpAny_bind (wpAny_askSetting (wpAny_pure (wpAny_pure ?_)))
 exact h
theorem next_led {S : Addr} {es : Array (Int × Value)} {ep i : Nat} {t : SetTable} {slot : Nat} {Q : Option (Value × Nat) → Shared → Prop} (hS : s.heap.get? S = some (setO es ep t)) (hf : t.fits es.size = true) (hb : byText G = false) (hz : es.size ≤ 1) (hl : es.isEmpty = false → t.led = true)
  (h : Q (match es[SetTable.below t.place slot]?,t.place[SetTable.below t.place slot]? with | some (_,x),some j=>some (x,j + 1) | _,_=>none) s) : wpAny G.M A (setNext S slot i ep) Q E s:=by
 unfold setNext setsByText
 refine wpAny_bind (wpAny_setState_of hS rfl hf ?_)
 dsimp only
 refine wpAny_bind (wpAny_bind (wpAny_askSetting (wpAny_pure ?_)))
 rw [show G.M.w.params.followText "set-order" = false from hb]
 simp only [Bool.false_eq_true,if_false]
 have hd : (!t.plain && decide (es.size > 1)) = false:=by simp; lia
 have key : ∀ {α : Type} {x y : Sem α} {Q' : α → Shared → Prop},wpAny G.M A y Q' E s → wpAny G.M A (if (!t.plain && decide (es.size > 1)) = true then x else y) Q' E s:=fun h=>by rw [hd]; exact h
 refine key ?_
 have hm : (!t.led && !es.isEmpty) = false:=by
  cases he : es.isEmpty with
  | true=>simp
  | false=>rw [hl he]; rfl
 have key2 : ∀ {Q' : Unit → Shared → Prop} {m : Sem Unit},Q' () s → wpAny G.M A (if (!t.led && !es.isEmpty) = true then m else pure ()) Q' E s:=fun h=>by rw [hm]; exact wpAny_pure h
 refine wpAny_bind (key2 ?_)
 exact wpAny_pure h
theorem below_one (j slot : Nat) : SetTable.below #[j] slot = if j < slot then 1 else 0:=by
 unfold SetTable.below
 show SetTable.below.go #[j] slot 1 0 1 = _
 unfold SetTable.below.go
 simp only [Nat.zero_lt_one,if_true]
 show (if j < slot then SetTable.below.go #[j] slot 0 (0 + 1) 1 else SetTable.below.go #[j] slot 0 0 0) = _
 unfold SetTable.below.go
 rfl
theorem key_rel {es : Array (Int × Value)} {t : SetTable} {xs : List Str} (hS : SetIs G es t xs) {e : Int × Value} (he : e ∈ es.toList) : tStr.rel K e.2 (keyOf e):=by
 obtain ⟨y,k,e1,_⟩:=hS.el e he
 exact ⟨k,by unfold keyOf; rw [e1]⟩
theorem itn_text {tg : Expr} {it S : Addr} {es : Array (Int × Value)} {ep : Nat} {t : SetTable} {xs : List Str} (hS : SetIs G es t xs) (hk : K S = some (setO es ep t)) (hb : byText G = true) (ht : ∀ it v,letOwnedTupleGo tg it v = pure ()) :
  ItN G K tg tStr it ((pickOrder (G.w.params.setOrder S ep) es).toList.map keyOf) (fun k=>[rSi it (rawInt 0) k S es.size ep]) [] where
 item:=fun n K' k x hle hx nu A s hA hs=>by
  rw [List.getElem?_map,Option.map_eq_some_iff] at hx
  obtain ⟨e,he,rfl⟩:=hx
  obtain ⟨o,g,rfl⟩:=hs.get (r:=rSi it (rawInt 0) k S es.size ep) List.mem_cons_self
  have hSk:=hs.k _ _ (hle _ _ hk)
  have hm : e ∈ es.toList:=(pickOrder_perm _ _).mem_iff.mp (List.mem_of_getElem? he)
  rw [Array.getElem?_toList] at he
  refine si_item (first':=rawInt 0) (x:=e.2) g hSk hS.fits (.inl ⟨0,0,rfl,0,rfl,fun Q' E' h=>next_text hSk hS.fits hb ?_⟩) fun h' sb g'=>?_
  ·show Q' _ s
   rw [he]; exact h
  ·refine ⟨K',[rSi it (rawInt 0) (k + 1) S es.size ep],.refl _,Own.change (t:=s.toks) (r':=rSi it (rawInt 0) (k + 1) S es.size ep) hs rfl sb g' rfl,e.2,rfl,key_rel hS hm,?_⟩
   rw [ht]; exact Tri.pure rfl
 stop:=fun n K' hle nu A s hA hs=>by
  obtain ⟨o,g,rfl⟩:=hs.get (r:=rSi it (rawInt 0) ((pickOrder (G.w.params.setOrder S ep) es).toList.map keyOf).length S es.size ep) List.mem_cons_self
  have hSk:=hs.k _ _ (hle _ _ hk)
  refine si_end hA.1 g hSk hS.fits (.inl ⟨0,0,rfl,fun Q' E' h=>next_text hSk hS.fits hb ?_⟩) fun h' hx=>?_
  ·have : (pickOrder (G.w.params.setOrder S ep) es)[((pickOrder (G.w.params.setOrder S ep) es).toList.map keyOf).length]? = none:=by simp
   rw [this]; exact h
  ·exact ⟨K',[],.refl _,Own.drop (s':={ s with heap:=h' }) hs hx rfl rfl,rfl,rfl⟩
theorem itn_drawn {tg : Expr} {it S p : Addr} {es : Array (Int × Value)} {ep : Nat} {t : SetTable} {xs : List Str} {places : List Nat} (hS : SetIs G es t xs) (hk : K S = some (setO es ep t)) (hp : K p = some (tupO (places.map fun (i : Nat)=>rawInt i) 0)) (hpl : ∀ i ∈ places,i < es.size) (ht : ∀ it v,letOwnedTupleGo tg it v = pure ()) :
  ItN G K tg tStr it (places.map fun i=>keyOf (es.getD i (0,.none))) (fun k=>[rSi it (.ref p) k S es.size ep]) [] where
 item:=fun n K' k x hle hx nu A s hA hs=>by
  rw [List.getElem?_map,Option.map_eq_some_iff] at hx
  obtain ⟨j,hj,rfl⟩:=hx
  obtain ⟨o,g,rfl⟩:=hs.get (r:=rSi it (.ref p) k S es.size ep) List.mem_cons_self
  have hSk:=hs.k _ _ (hle _ _ hk)
  have hjl:=hpl j (List.mem_of_getElem? hj)
  have he : es[j]? = some es[j]:=Array.getElem?_eq_getElem hjl
  have hd : es.getD j (0,.none) = es[j]:=by simp [Array.getD,hjl]
  refine si_item (first':=.ref p) (x:=es[j].2) g hSk hS.fits (.inr ⟨p,_,_,_,j,0,es[j].1,rfl,rfl,hs.k _ _ (hle _ _ hp),rfl,?_,?_⟩) fun h' sb g'=>?_
  ·rw [List.getElem?_toArray,List.getElem?_map,hj]; rfl
  ·exact he
  ·refine ⟨K',[rSi it (.ref p) (k + 1) S es.size ep],.refl _,Own.change (t:=s.toks) (r':=rSi it (.ref p) (k + 1) S es.size ep) hs rfl sb g' rfl,es[j].2,rfl,?_,?_⟩
   ·rw [hd]; exact key_rel hS (by simp)
   ·rw [ht]; exact Tri.pure rfl
 stop:=fun n K' hle nu A s hA hs=>by
  obtain ⟨o,g,rfl⟩:=hs.get (r:=rSi it (.ref p) (places.map fun i=>keyOf (es.getD i (0,.none))).length S es.size ep) List.mem_cons_self
  have hSk:=hs.k _ _ (hle _ _ hk)
  refine si_end hA.1 g hSk hS.fits (.inr ⟨p,_,_,_,rfl,hs.k _ _ (hle _ _ hp),rfl,by simp⟩) fun h' hx=>?_
  exact ⟨K',[],.refl _,Own.drop (s':={ s with heap:=h' }) hs hx rfl rfl,rfl,rfl⟩
theorem one_arr {α : Type} {l : Array α} (h : l.size = 1) : ∃ e,l = #[e]:=by
 obtain ⟨l⟩:=l
 match l,h with
 | [e],_=>exact ⟨e,rfl⟩
theorem itn_one {tg : Expr} {it S : Addr} {es : Array (Int × Value)} {ep : Nat} {t : SetTable} {xs : List Str} (hS : SetIs G es t xs) (hk : K S = some (setO es ep t)) (hb : byText G = false) (hz : es.size = 1) (ht : ∀ it v,letOwnedTupleGo tg it v = pure ()) :
  ItN G K tg tStr it (es.toList.map keyOf) (fun k=>[rSi it (if k = 0 then rawInt 0 else rawInt ((t.place.getD 0 0 + 1 : Nat) : Int)) k S es.size ep]) [] where
 item:=fun n K' k x hle hx nu A s hA hs=>by
  have hl : (es.toList.map keyOf).length = 1:=by simpa using hz
  have hk0 : k = 0:=by have:=(List.getElem?_eq_some_iff.mp hx).1; lia
  subst hk0
  obtain ⟨o,g,rfl⟩:=hs.get (r:=rSi it (if 0 = 0 then rawInt 0 else rawInt ((t.place.getD 0 0 + 1 : Nat) : Int)) 0 S es.size ep) List.mem_cons_self
  have hSk:=hs.k _ _ (hle _ _ hk)
  obtain ⟨e,rfl⟩:=one_arr hz
  have hfit:=hS.fits
  have hps : t.place.size = 1:=by
   unfold SetTable.fits at hfit
   simp only [Bool.and_eq_true,beq_iff_eq] at hfit
   exact hfit.1
  obtain ⟨j,hj⟩:=one_arr hps
  have hx' : x = keyOf e:=by simpa using hx.symm
  subst hx'
  have hne : xs ≠ []:=by
   intro h; have:=hS.ks.length_eq; rw [h] at this; simp at this
  have hled : t.led = true:=by rw [hS.led hne,hb]; rfl
  refine si_item (first':=rawInt ((j + 1 : Nat) : Int)) (x:=e.2) g hSk hS.fits (.inl ⟨0,0,rfl,j + 1,rfl,fun Q' E' h=>next_led hSk hS.fits hb (by simp) (fun _=>hled) ?_⟩) fun h' sb g'=>?_
  ·rw [hj]
   show Q' (match #[e][SetTable.below #[j] 0]?,#[j][SetTable.below #[j] 0]? with | some (_,x),some j=>some (x,j + 1) | _,_=>none) s
   rw [below_one]
   exact h
  ·refine ⟨K',[rSi it (rawInt ((j + 1 : Nat) : Int)) 1 S (#[e] : Array (Int × Value)).size ep],.refl _,Own.change (t:=s.toks) (r':=rSi it (rawInt ((j + 1 : Nat) : Int)) 1 S (#[e] : Array (Int × Value)).size ep) hs rfl sb g' rfl,e.2,rfl,key_rel hS (by simp),?_⟩
   rw [ht,hj]; exact Tri.pure rfl
 stop:=fun n K' hle nu A s hA hs=>by
  have hl : (es.toList.map keyOf).length = 1:=by simpa using hz
  rw [hl] at hs
  obtain ⟨o,g,rfl⟩:=hs.get (r:=rSi it (if 1 = 0 then rawInt 0 else rawInt ((t.place.getD 0 0 + 1 : Nat) : Int)) 1 S es.size ep) List.mem_cons_self
  have hSk:=hs.k _ _ (hle _ _ hk)
  obtain ⟨e,rfl⟩:=one_arr hz
  have hfit:=hS.fits
  have hps : t.place.size = 1:=by
   unfold SetTable.fits at hfit
   simp only [Bool.and_eq_true,beq_iff_eq] at hfit
   exact hfit.1
  obtain ⟨j,hj⟩:=one_arr hps
  have hne : xs ≠ []:=by
   intro h; have:=hS.ks.length_eq; rw [h] at this; simp at this
  have hled : t.led = true:=by rw [hS.led hne,hb]; rfl
  refine si_end hA.1 g hSk hS.fits (.inl ⟨((t.place.getD 0 0 + 1 : Nat) : Int),0,rfl,fun Q' E' h=>next_led hSk hS.fits hb (by simp) (fun _=>hled) ?_⟩) fun h' hx=>?_
  ·rw [hj]
   show Q' (match #[e][SetTable.below #[j] (j + 1)]?,#[j][SetTable.below #[j] (j + 1)]? with | some (_,x),some j=>some (x,j + 1) | _,_=>none) s
   rw [below_one,if_pos (Nat.lt_succ_self j)]
   exact h
  ·exact ⟨K',[],.refl _,Own.drop (s':={ s with heap:=h' }) hs hx rfl rfl,rfl,rfl⟩
theorem itn_nil {tg : Expr} {it S : Addr} {ep : Nat} {t : SetTable} (hf : t.fits 0 = true) (hk : K S = some (setO #[] ep t)) (hb : byText G = false) :
  ItN G K tg tStr it [] (fun k=>[rSi it (rawInt 0) k S 0 ep]) [] where
 item:=fun n K' k x hle hx nu A s hA hs=>by simp at hx
 stop:=fun n K' hle nu A s hA hs=>by
  obtain ⟨o,g,rfl⟩:=hs.get (r:=rSi it (rawInt 0) ([] : List Str).length S 0 ep) List.mem_cons_self
  have hSk:=hs.k _ _ (hle _ _ hk)
  refine si_end (es:=#[]) hA.1 g hSk hf (.inl ⟨0,0,rfl,fun Q' E' h=>next_led hSk hf hb (by simp) (fun h=>by simp at h) ?_⟩) fun h' hx=>?_
  ·simpa using h
  ·exact ⟨K',[],.refl _,Own.drop (s':={ s with heap:=h' }) hs hx rfl rfl,rfl,rfl⟩
theorem iter_set {tg : Expr} {S : Addr} {es : Array (Int × Value)} {ep : Nat} {t : SetTable} {xs : List Str} (hS : SetIs G es t xs) (hk : K S = some (setO es ep t)) (ht : ∀ it v,letOwnedTupleGo tg it v = pure ()) :
  Tri G n K mu (pyIter (.ref S)) fun K2 mu2 w=>∃ it R ys,w = .ref it ∧ mu2 = R 0 ++ mu ∧ ys.Perm xs ∧ ItN G K2 tg tStr it ys R []:=fun nu A s hA hs=>by
 have hSk:=hs.k _ _ hk
 have hT : s.TypeIs (.ref S) "set" := ⟨_,hSk,rfl⟩
 refine wpAny_pyIter_slot hT F.slot_set_iter (wpAny_call_entry F.slot_set_iter hT entry_set_iter ?_ (F.args_set_iter_1 _))
 unfold Builtin.«frozenset.__iter__» Builtin.Frozenset.slot0
 refine wpAny_bind (wpAny_bind (wpAny_pure ?_))
 refine wpAny_pure (wpAny_bind ?_)
 unfold Builtin.Frozenset.sizeOf
 refine wpAny_bind (wpAny_setEntries_of hSk rfl hS.fits (wpAny_pure (wpAny_bind ?_)))
 unfold setDrawn setsByText
 refine wpAny_bind (wpAny_setState_of hSk rfl hS.fits ?_)
 dsimp only
 refine wpAny_bind (wpAny_bind (wpAny_askSetting (wpAny_pure (wpAny_pure ?_))))
 have fin : ∀ (first : Value) (K1 : KH) (s1 : Shared) (R : Addr → Nat → List Res) (ys : List Str),KLe K K1 → Own G K1 (mu ++ nu) s1 → (∀ it,R it 0 = [rSi it first 0 S es.size ep]) → ys.Perm xs → (∀ it,ItN G K1 tg tStr it ys (R it) []) →
   wpAny (model G.prog G.w) A.in1 (do
      let e ← setEpoch S
      let v ← newFields "set_iterator" [first,rawInt 0,Value.ref S,rawInt es.size,rawInt e]
      ret v) (fun fin s'=>∃ v,fin = Fin.done (Flow.ret v) ∧ ∃ T' r,s'.TypeIs v T' ∧ typeLookup (Value.type T') (Str.ofString "__next__") = pure (some r) ∧
          ∃ K' mu',KLe K K' ∧ Own G K' (mu' ++ nu) s' ∧ ∃ it R ys,v = Value.ref it ∧ mu' = R 0 ++ mu ∧ ys.Perm xs ∧ ItN G K' tg tStr it ys R []) noE s1:=by
  intro first K1 s1 R ys hle o1 hR hy hI
  refine wpAny_bind (wpAny_setEpoch_of (o1.k _ _ (hle _ _ hk)) rfl hS.fits ?_)
  refine wpAny_bind (wpAny_newObj_type (wpAny_pure ?_))
  refine ⟨_,rfl,"set_iterator", _,⟨_,Heap.get?_push_size _ rfl,rfl⟩,slot_si_next.lookup,K1,[rSi s1.heap.objs.size first 0 S es.size ep] ++ mu,hle,?_,s1.heap.objs.size,R s1.heap.objs.size,ys,rfl,by rw [hR],hy,hI _⟩
  exact o1.pushOwned (siO first 0 (.ref S) es.size ep) (rSi s1.heap.objs.size first 0 S es.size ep) rfl rfl
 by_cases hb : byText G = true
 ·rw [show (model G.prog G.w).w.params.followText "set-order" = true from hb]
  simp only [Bool.not_true,Bool.false_and,Bool.false_eq_true,if_false]
  refine wpAny_bind (wpAny_pure ?_)
  refine fin (rawInt 0) K s (fun it k=>[rSi it (rawInt 0) k S es.size ep]) _ (.refl K) hs (fun _=>rfl) ?_ fun it=>itn_text hS hk hb ht
  exact ((pickOrder_perm _ es).map keyOf).trans hS.ks
 ·have hb : byText G = false:=by simpa using hb
  rw [show (model G.prog G.w).w.params.followText "set-order" = false from hb]
  by_cases hz : es.size ≤ 1
  ·have key : ∀ {α : Type} {x y : Sem α} {Q' : α → Shared → Prop} {E'},wpAny (model G.prog G.w) A.in1 y Q' E' s → wpAny (model G.prog G.w) A.in1 (if (!false && (!t.plain && decide (es.size > 1))) = true then x else y) Q' E' s:=fun h=>by
    rw [show (!false && (!t.plain && decide (es.size > 1))) = false by simp; lia]; exact h
   refine key (wpAny_bind (wpAny_pure ?_))
   by_cases h0 : es.size = 0
   ·have e0 : es = #[]:=Array.eq_empty_of_size_eq_zero h0
    subst e0
    have hx : xs = []:=List.length_eq_zero_iff.mp (hS.size.symm)
    exact fin (rawInt 0) K s (fun it k=>[rSi it (rawInt 0) k S 0 ep]) [] (.refl K) hs (fun _=>rfl) (by rw [hx]) fun it=>itn_nil hS.fits hk hb
   ·exact fin (rawInt 0) K s (fun it k=>[rSi it (if k = 0 then rawInt 0 else rawInt ((t.place.getD 0 0 + 1 : Nat) : Int)) k S es.size ep]) _ (.refl K) hs (fun _=>rfl) hS.ks fun it=>itn_one hS hk hb (by lia) ht
  ·have hne : xs ≠ []:=by intro h; have:=hS.size; rw [h,List.length_nil] at this; lia
   have hp:=hS.plain hne
   have key : ∀ {α : Type} {x y : Sem α} {Q' : α → Shared → Prop} {E'},wpAny (model G.prog G.w) A.in1 x Q' E' s → wpAny (model G.prog G.w) A.in1 (if (!false && (!t.plain && decide (es.size > 1))) = true then x else y) Q' E' s:=fun h=>by
    rw [show (!false && (!t.plain && decide (es.size > 1))) = true by rw [hp]; simp; lia]; exact h
   refine key (wpAny_bind (draw_order es.size _ s _ (by simp) fun ys d hy=>?_))
   have o1 : Own G K (mu ++ nu) { s with drawn:=d }:=⟨hs.k,hs.old,hs.led,hs.off,hs.nodup,hs.gens,hs.os,hs.tk,hs.st,hs.kst⟩
   refine wpAny_bind (wpAny_newObj_type ?_ (by show _ ≤ _; simp [hy.length_eq]; have:=hS.small; unfold scanBound at this; show _ ≤ 2 ^ 24; lia))
   have o2:=o1.push (tupO (ys.map fun (i : Nat)=>rawInt i) 0)
   have hle:=kput_le (o:=tupO (ys.map fun (i : Nat)=>rawInt i) 0) o1.fresh
   refine fin (.ref s.heap.objs.size) _ _ (fun it k=>[rSi it (.ref s.heap.objs.size) k S es.size ep]) _ hle o2 (fun _=>rfl) ?_ fun it=>itn_drawn (places:=ys) hS (hle _ _ hk) (kput_self ..) (fun i hi=>List.mem_range.mp (hy.mem_iff.mp hi)) ht
   refine (hy.map _).trans ?_
   have : (List.range es.size).map (fun i=>keyOf (es.getD i (0,.none))) = es.toList.map keyOf:=by
    apply List.ext_getElem
    ·simp
    ·intro i h1 h2
     have hi : i < es.size:=by simpa using h1
     simp [Array.getD,hi]
   rw [this]
   exact hS.ks
end
section
variable {G : Gl} {n : Nat} {env : Env} {mu mu₁ mu₂ mu₃ nu rest : List Res} {K : KH} {A : Around} {s : Shared} {E : Value → Shared → Prop} {α β γ : Type} {T : Ty α} {x : α} {e l r : Expr} {pos p : Pos} {F F' : Flow → KH → List Res → Prop}
theorem ExS.forQ {t iter : Expr} {body : List Stmt} {last J0 keep : List Res} (P : List α → Prop) (J : List α → Nat → List Res) (I : List α → Nat → Prop) (hi : ∀ K,Tri G n K mu (eval iter env) fun K1 mu1 v=>Tri G n K1 mu1 (pyIter v) fun K2 mu2 w=>∃ it R ys,w = .ref it ∧ mu2 = R 0 ++ J0 ∧ P ys ∧ ItN G K2 t T it ys R last ∧ ∀ k,Wk G (R k) keep) (hJ : ∀ ys,P ys → J ys 0 = J0 ∧ I ys 0)
  (hb : ∀ xs,P xs → ∀ (k : Nat) (x : α),xs[k]? = some x → I xs k → ∃ mu₁,As G n env (J xs k) t T x mu₁ ∧ Ex G n env mu₁ body fun f K mu'=>match f with | .next=>Wk G mu' (J xs (k + 1)) ∧ I xs (k + 1) | .cont=>Wk G mu' (J xs (k + 1)) ∧ I xs (k + 1) | .ret v=>F (.ret v) K (mu' ++ keep) | .brk=>False)
  (hend : ∀ xs,P xs → I xs xs.length → ∀ K,F .next K (J xs xs.length ++ last)) (hs : ∀ x,foldedSetIterable iter env x = pure x:=by intro _; rfl) : ExS G n env mu (.For t iter body [] pos) F:=fun K nu A s hA hs'=>by
 refine wpAny_For (Tri.use (hi K) hA hs' fun K1 mu1 v s1 h1 o1 r1=>Tri.use r1 hA o1 fun K2 mu2 w s2 h2 o2 ⟨it,R,xs,e1,e2,hP,It,hKp⟩=>?_) hs
 subst e1 e2
 rw [← (hJ xs hP).1] at o2
 have key : ∀ (m k : Nat) (K3 : KH) (s3 : Shared),xs.length - k = m → k ≤ xs.length → I xs k → KLe K2 K3 → Own G K3 (R k ++ (J xs k ++ nu)) s3 → codeAny G.M A (.forLoop t (.ref it) body [] env) (fun r s'=>match r with
   | .ok f=>∃ K' mu',KLe K K' ∧ Own G K' (mu' ++ nu) s' ∧ F f K' mu'
   | .error e=>cameBackBy G.M A env noE e s') s3:=by
  intro m
  induction m with
  | zero =>
   intro k K3 s3 hm hk hIk hle ho
   have hkl : k = xs.length:=by lia
   subst hkl
   refine codeAny_of_tree ?_
   show wpAny _ (A.under (.forLoop t (.ref it) body [] env)) ((forTurn t (.ref it) body [] env).onRaise (fun x=>do noteFrame x env; theTreesLotGoes x)) _ _ _
   rw [Around.under_of_weight rfl]
   refine wpAny_noted ?_
   unfold forTurn
   refine wpAny_bind (wpAny_standAt (wpAny_bind (wpAny_onRaise (Tri.use (It.stop n K3 hle) hA ho fun K4 mu4 o s4 h4 o4 ⟨e4,e5⟩=>?_))))
   subst e4 e5
   refine wpAny_pure ⟨rfl,codeAny_of_tree ?_⟩
   show wpAny _ (A.under (.block [] env)) ((execs [] env).onRaise (fun x=>do noteFrame x env; theTreesLotGoes x) >>= fun f=>pure (Fin.done f)) _ _ _
   rw [Around.under_of_weight rfl]
   refine wpAny_bind (wpAny_noted (wpAny_execs_nil (wpAny_pure ?_)))
   refine ⟨K4,J xs xs.length ++ mu4,h1.trans (h2.trans (hle.trans h4)),?_,hend xs hP hIk K4⟩
   exact o4.perm (by rw [← List.append_assoc]; exact List.perm_append_comm.append_right nu)
  | succ m ih =>
   intro k K3 s3 hm hk hIk hle ho
   have hkl : k < xs.length:=by lia
   have hx : xs[k]? = some xs[k]:=List.getElem?_eq_getElem hkl
   obtain ⟨mu₁,ha,hbd⟩:=hb xs hP k xs[k] hx hIk
   refine codeAny_of_tree ?_
   show wpAny _ (A.under (.forLoop t (.ref it) body [] env)) ((forTurn t (.ref it) body [] env).onRaise (fun x=>do noteFrame x env; theTreesLotGoes x)) _ _ _
   rw [Around.under_of_weight rfl]
   refine wpAny_noted ?_
   unfold forTurn
   refine wpAny_bind (wpAny_standAt (wpAny_bind (wpAny_onRaise (Tri.use (It.item n K3 k xs[k] hle hx) hA ho fun K4 mu4 o s4 h4 o4 ⟨v,e4,r4,hgo⟩=>?_))))
   subst e4
   refine wpAny_bind (Tri.use hgo hA o4 fun K5 mu5 _ s5 h5 o5 e5=>?_)
   subst e5
   have o5 : Own G K5 (J xs k ++ (R (k + 1) ++ nu)) s5:=o5.perm (by rw [← List.append_assoc,← List.append_assoc]; exact List.perm_append_comm.append_right nu)
   refine wpAny_bind (ha.use (T.mono h5 r4) hA o5 fun K6 s6 h6 o6=>?_)
   refine wpAny_bind (hbd.use hA o6 fun K7 mu7 f s7 h7 o7 r7=>?_)
   have hle7 : KLe K2 K7:=hle.trans (h4.trans (h5.trans (h6.trans h7)))
   cases f with
   | next =>
    have hI7:=r7.2
    have o7:=r7.1 K7 _ s7 o7
    exact wpAny_pure ⟨rfl,ih (k + 1) K7 s7 (by lia) (by lia) hI7 hle7 (o7.perm (by rw [← List.append_assoc,← List.append_assoc]; exact List.perm_append_comm.append_right nu))⟩
   | cont =>
    have hI7:=r7.2
    have o7:=r7.1 K7 _ s7 o7
    exact wpAny_pure ⟨rfl,ih (k + 1) K7 s7 (by lia) (by lia) hI7 hle7 (o7.perm (by rw [← List.append_assoc,← List.append_assoc]; exact List.perm_append_comm.append_right nu))⟩
   | brk=>exact r7.elim
   | ret v =>
    refine wpAny_pure ⟨K7,mu7 ++ keep,h1.trans (h2.trans hle7),?_,r7⟩
    have o8 : Own G K7 (R (k + 1) ++ (mu7 ++ nu)) s7:=o7.perm (by rw [← List.append_assoc,← List.append_assoc]; exact List.perm_append_comm.append_right nu)
    have o9:=hKp (k + 1) K7 (mu7 ++ nu) s7 o8
    exact o9.perm (by rw [← List.append_assoc]; exact List.perm_append_comm.append_right nu)
 exact key _ 0 K2 s2 rfl (Nat.zero_le _) (hJ xs hP).2 (.refl _) (by rw [← List.append_assoc]; exact o2)
end
theorem cmp_list_core {α : Type} [DecidableEq α] {T : Ty α} {d : Nat} (hT : EqTy T d) {K : KH} {s : Shared} {A : Around} {vs ws : List Value} {xs ys : List α} (hk : ∀ b o,K b = some o → s.heap.get? b = some o) (hu : A.units + 1 + d < cLine)
  (hxs : All2 (T.rel K) vs xs) (hys : All2 (T.rel K) ws ys) : (∀ j (h1 : j < vs.toArray.size) (h2 : j < ws.toArray.size),SeqAt.EqAt A.in1 s vs.toArray[j] ws.toArray[j] (decide (xs[j]? = ys[j]?))) ∧
   (xs.length = ys.length → ((List.range vs.toArray.size).all fun j=>decide (xs[j]? = ys[j]?)) = decide (xs = ys)):=by
 refine ⟨fun j h1 h2=>?_,fun hl=>?_⟩
 ·have h1' : j < vs.length:=by simpa using h1
  have h2' : j < ws.length:=by simpa using h2
  obtain ⟨x,ex,rx⟩:=hxs.getV (i:=j) (v:=vs[j]) (by simp [h1'])
  obtain ⟨y,ey,ry⟩:=hys.getV (i:=j) (v:=ws[j]) (by simp [h2'])
  have:=hT K s A.in1 vs[j] ws[j] x y hk (by show A.units + 1 + d < cLine; lia) rx ry
  rw [ex,ey]
  have e1 : decide (some x = some y) = decide (x = y):=by simp
  simp only [List.getElem_toArray]
  rw [e1]
  exact this
 ·have l1:=hxs.length
  have l2:=hys.length
  rw [Bool.eq_iff_iff,List.all_eq_true]
  simp only [List.mem_range,decide_eq_true_eq,List.size_toArray]
  constructor
  ·intro h
   apply List.ext_getElem? fun i=>?_
   by_cases hi : i < vs.length
   ·exact h i hi
   ·rw [List.getElem?_eq_none (by lia),List.getElem?_eq_none (by lia)]
  ·rintro rfl _ _; rfl
section
variable {G : Gl} {n : Nat} {env : Env} {mu mu₁ mu₂ mu₃ nu rest W R : List Res} {K : KH} {A : Around} {s : Shared} {E : Value → Shared → Prop} {α β γ : Type} {T : Ty α} {x : α} {U : Ty β} {y : β} {V : Ty γ} {z : γ} {e l r : Expr} {pos p : Pos} {xs ys : List α} {es : List Expr} {ts : List TV}
 {ln cn gn : List Str} {rho ka : List (Option TV)} {ca : List Addr} {id : Str} {st : Stmt} {ss : List Stmt} {F F' : Flow → KH → List Res → Prop}
theorem cmp_eqL [DecidableEq α] {d : Nat} (hT : EqTy T d) (hd : d < 500:=by decide) : Cmp G .Eq (tList T) xs (tList T) ys (decide (xs = ys)):=fun n K mu v w ⟨a,vs,m,e1,ha,hx⟩ ⟨b,ws,k,e2,hb,hy⟩=>by
 subst e1 e2
 refine .same fun A s hA hk=>?_
 have hu : A.units + 1 + d < cLine:=by have:=hA.2.2; show _ < 9900; lia
 have La:=isList_of (hk _ _ ha)
 have Lb:=isList_of (hk _ _ hb)
 obtain ⟨c1,c2⟩:=cmp_list_core hT hk hu hx hy
 have l1:=hx.length
 have l2:=hy.length
 by_cases hl : xs.length = ys.length
 ·refine EqBoolInt.of_rc (SeqAt.RcAt.lists (e:=fun j=>decide (xs[j]? = ys[j]?)) La Lb (by simp only [List.size_toArray]; lia) (by lia) c1) ⟨rfl,?_⟩
  rw [c2 hl]; rfl
 ·refine EqBoolInt.of_rc (SeqAt.RcAt.lists_lengths La Lb (by simp only [List.size_toArray,bne_iff_ne,ne_eq]; lia) (by lia)) ⟨rfl,?_⟩
  rw [decide_eq_false (fun e=>hl (congrArg List.length e))]; rfl
theorem cmp_neL [DecidableEq α] {d : Nat} (hT : EqTy T d) (hd : d < 500:=by decide) : Cmp G .NotEq (tList T) xs (tList T) ys (!decide (xs = ys)):=fun n K mu v w ⟨a,vs,m,e1,ha,hx⟩ ⟨b,ws,k,e2,hb,hy⟩=>by
 subst e1 e2
 refine .same fun A s hA hk=>?_
 have hu : A.units + 1 + d < cLine:=by have:=hA.2.2; show _ < 9900; lia
 have La:=isList_of (hk _ _ ha)
 have Lb:=isList_of (hk _ _ hb)
 obtain ⟨c1,c2⟩:=cmp_list_core hT hk hu hx hy
 have l1:=hx.length
 have l2:=hy.length
 by_cases hl : xs.length = ys.length
 ·refine EqBoolInt.of_rcne (SeqAt.RcNeAt.lists (e:=fun j=>decide (xs[j]? = ys[j]?)) La Lb (by simp only [List.size_toArray]; lia) (by lia) c1) ⟨rfl,?_⟩
  rw [c2 hl]; rfl
 ·refine EqBoolInt.of_rcne (SeqAt.RcNeAt.lists_lengths La Lb (by simp only [List.size_toArray,bne_iff_ne,ne_eq]; lia) (by lia)) ⟨rfl,?_⟩
  rw [decide_eq_false (fun e=>hl (congrArg List.length e))]; rfl
theorem Own.liV {v : Value} (hs : Own G K (mu ++ nu) s) (h : LiV G K mu v T xs) : ∃ a vs n,v = .ref a ∧ s.heap.get? a = some (listO vs n) ∧ All2 (T.rel K) vs xs:=by
 obtain ⟨a,rfl,h⟩:=h
 obtain ⟨vs,m,e,hr⟩:=h K nu s (.refl K) hs
 exact ⟨a,vs,m,rfl,e,hr⟩
theorem vl_inL [DecidableEq α] {d : Nat} (hT : EqTy T d) (hD : Det T) (hd : d < 500) {v w : Value} (hx : T.rel K v x) (hl : LiV G K mu w T xs) : Vl G n K mu (compareOp .In v w) tBool (decide (x ∈ xs)) mu:=fun nu A s hA hs=>by
 obtain ⟨a,vs,m,rfl,e1,h⟩:=hs.liV hl
 obtain ⟨e,he,ha'⟩:=in_facts hT hD (A:=A) hs.k (by have:=hA.2.2; show _ < 9900; lia) hx h
 refine SeqAt.in_listAt e (isList_of e1) he (done (.refl K) hs ?_)
 show Value.bool _ = Value.bool _
 rw [List.any_toArray,ha']
theorem vl_notInL [DecidableEq α] {d : Nat} (hT : EqTy T d) (hD : Det T) (hd : d < 500) {v w : Value} (hx : T.rel K v x) (hl : LiV G K mu w T xs) : Vl G n K mu (compareOp .NotIn v w) tBool (!decide (x ∈ xs)) mu:=fun nu A s hA hs=>by
 obtain ⟨a,vs,m,rfl,e1,h⟩:=hs.liV hl
 obtain ⟨e,he,ha'⟩:=in_facts hT hD (A:=A) hs.k (by have:=hA.2.2; show _ < 9900; lia) hx h
 refine SeqAt.notIn_listAt e (isList_of e1) he (done (.refl K) hs ?_)
 show Value.bool _ = Value.bool _
 rw [List.any_toArray,ha']
theorem Cond.inL [DecidableEq α] {d : Nat} (hT : EqTy T d) (hD : Det T) (hl : Ev G n env mu l T x mu₁) (hr : EvL G n env mu₁ r T xs mu₁) (hd : d < 500:=by decide) (hm : behindInMarks .In r = false:=by with_unfolding_all rfl) : Cond G n env mu (.Compare l [.In] [r] pos) (decide (x ∈ xs)) mu₁:=fun K nu A s hA hs =>
 wpAny_isTrue_Compare1 (hl.use hA hs fun K1 a s1 h1 o1 r1=>hr.use hA o1 fun K2 b s2 h2 o2 r2=>(vl_inL hT hD hd (T.mono h2 r1) r2).use hA o2 fun K3 v s3 h3 o3 r3=>by
  have e : v = .bool _:=r3
  subst e
  exact wpAny_truthy_bool ⟨K3,mu₁,h1.trans (h2.trans h3),o3,rfl,rfl⟩) hm
theorem Cond.notInL [DecidableEq α] {d : Nat} (hT : EqTy T d) (hD : Det T) (hl : Ev G n env mu l T x mu₁) (hr : EvL G n env mu₁ r T xs mu₁) (hd : d < 500:=by decide) (hm : behindInMarks .NotIn r = false:=by with_unfolding_all rfl) : Cond G n env mu (.Compare l [.NotIn] [r] pos) (!decide (x ∈ xs)) mu₁:=fun K nu A s hA hs =>
 wpAny_isTrue_Compare1 (hl.use hA hs fun K1 a s1 h1 o1 r1=>hr.use hA o1 fun K2 b s2 h2 o2 r2=>(vl_notInL hT hD hd (T.mono h2 r1) r2).use hA o2 fun K3 v s3 h3 o3 r3=>by
  have e : v = .bool _:=r3
  subst e
  exact wpAny_truthy_bool ⟨K3,mu₁,h1.trans (h2.trans h3),o3,rfl,rfl⟩) hm
theorem sizeLine_nat : sizeLine = 16777216:=rfl
theorem Ev.idxD {i : Int} {d : α} (hl : EvL G n env mu l T xs mu₁) (hr : Ev G n env mu₁ r tInt i mu₁) (hi : 0 ≤ i ∧ i < xs.length) (hz : xs.length ≤ 100000)
  (hs : ∀ a u,subscripted r false (.ref a) (.int i u) = operate [.ref a,.int i u] (getItem (.ref a) (.int i u)):=by intro _ _; with_unfolding_all rfl) : Ev G n env mu (.Subscript l r pos) T (xs.getD i.toNat d) mu₁ :=
 Ev.idx hl hr hi.1 (by rw [List.getD_eq_getElem?_getD,List.getElem?_eq_getElem (by lia)]; rfl) (by lia) hs
theorem Ev.lastD {i : Int} {d : α} (hl : EvL G n env mu l T xs mu₁) (hr : Ev G n env mu₁ r tInt i mu₁) (hi : i = -1) (hne : 0 < xs.length) (hz : xs.length ≤ 100000)
  (hs : ∀ a u,subscripted r false (.ref a) (.int i u) = operate [.ref a,.int i u] (getItem (.ref a) (.int i u)):=by intro _ _; with_unfolding_all rfl) : Ev G n env mu (.Subscript l r pos) T (xs.getLastD d) mu₁ :=
 Ev.idxLast hl hr hi (by cases xs with
  | nil=>simp at hne
  | cons a l=>simp [List.getLast?_cons,List.getLastD_cons]) (by rw [sizeLine_nat]; lia) hs
noncomputable def WkG (G : Gl) (mu mu' : List Res) : Prop:=∀ K nu s,Own G K (mu ++ nu) s → ∃ K',KLe K K' ∧ Own G K' (mu' ++ nu) s
theorem Tri.ghost {β : Type} {t : Sem β} {Q : KH → List Res → β → Prop} (h : WkG G mu mu₁) (h' : ∀ K',Tri G n K' mu₁ t Q) : Tri G n K mu t Q:=fun nu A s hA hs=>by
 obtain ⟨K1,l1,o1⟩:=h K nu s hs
 exact wpAny_mono (h' K1 nu A s hA o1) (fun b s' ⟨K2,mu2,l2,o2,q⟩=>⟨K2,mu2,l1.trans l2,o2,q⟩) fun _ _ x=>x
theorem Ex.ghost (h : WkG G mu mu₁) (h' : Ex G n env mu₁ ss F) : Ex G n env mu ss F:=fun K=>Tri.ghost h h'
theorem Own.tellK {mu' : List Res} (h : Own G K mu s) (ha : mu'.map (·.a) = mu.map (·.a)) (hp : ∀ r' ∈ mu',∃ r ∈ mu,r.a = r'.a ∧ ∀ o,r.P K o → r'.P K o) : Own G K mu' s :=
 ⟨h.k,h.old,fun r' hr'=>let ⟨r,hr,e,p⟩:=hp r' hr'; let ⟨o,e',q⟩:=h.led r hr; ⟨o,by rw [← e]; exact e',p o q⟩,fun r' hr'=>let ⟨r,hr,e,_⟩:=hp r' hr'; by rw [← e]; exact h.off r hr,by rw [ha]; exact h.nodup,h.gens,h.os,h.tk,h.st,h.kst⟩
theorem WkG.frzL {L a : Addr} {i j : Nat} (hj : R[j]? = some (rList a T xs)) (hi : rho[i]? = some (some ⟨tVal,.ref a⟩)) : WkG G (VS L ln rho ca ka ++ R) (VS L ln (rho.set i (some ⟨tList T,xs⟩)) ca ka ++ R.eraseIdx j):=fun K nu s hs=>by
 obtain ⟨pa,_⟩:=split_R (W:=VS L ln rho ca ka) (nu:=nu) (r':=rList a T xs) hj
 obtain ⟨o,⟨vs,m,rfl,hv⟩,hn,o1⟩:=Own.freeze (hs.perm pa)
 have hle:=kput_le (o:=listO vs m) hn
 refine ⟨_,hle,?_⟩
 refine o1.tellK rfl fun r' hr'=>?_
 rw [VS,List.append_assoc,List.cons_append] at hr'
 rcases List.mem_cons.mp hr' with rfl | hr'
 ·refine ⟨rFrame L ln rho,by rw [VS]; simp,rfl,fun o ⟨mm,hm,hf⟩=>⟨mm,hm,fun k nm tv h1 h2=>?_⟩⟩
  by_cases hk : i = k
  ·subst hk
   rw [List.getElem?_set_self (List.getElem?_eq_some_iff.mp hi).1] at h2
   cases h2
   obtain ⟨v,e1,e2⟩:=hf i nm _ h1 hi
   have e2 : v = .ref a:=e2
   exact ⟨v,e1,a,vs,m,e2,kput_self ..,hv.mono fun _ _=>T.mono hle⟩
  ·rw [List.getElem?_set_ne hk] at h2
   exact hf k nm tv h1 h2
 ·exact ⟨r',by rw [VS,List.append_assoc,List.cons_append]; exact List.mem_cons_of_mem _ hr',rfl,fun _ q=>q⟩
theorem WkG.frzC {L a c : Addr} {i j : Nat} (hj : R[j]? = some (rList a T xs)) (hc : ca[i]? = some c) (hi : ka[i]? = some (some ⟨tVal,.ref a⟩)) : WkG G (VS L ln rho ca ka ++ R) (VS L ln rho ca (ka.set i (some ⟨tList T,xs⟩)) ++ R.eraseIdx j):=fun K nu s hs=>by
 obtain ⟨pa,_⟩:=split_R (W:=VS L ln rho ca ka) (nu:=nu) (r':=rList a T xs) hj
 obtain ⟨o,⟨vs,m,rfl,hv⟩,hn,o1⟩:=Own.freeze (hs.perm pa)
 have hle:=kput_le (o:=listO vs m) hn
 refine ⟨_,hle,?_⟩
 have hz : (List.zipWith rC ca ka)[i]? = some (rC c (some ⟨tVal,.ref a⟩)):=zipWith_get hc hi
 have e3 : List.zipWith rC ca (ka.set i (some ⟨tList T,xs⟩)) = (List.zipWith rC ca ka).set i (rC c (some ⟨tList T,xs⟩)):=zipWith_set hc
 obtain ⟨hlt,he⟩:=List.getElem?_eq_some_iff.mp hz
 refine o1.tellK ?_ fun r' hr'=>?_
 ·rw [VS,VS,e3]
  simp only [List.map_append,List.map_cons,List.map_set]
  congr 3
  have : (rC c (some ⟨tList T,xs⟩)).a = ((List.zipWith rC ca ka).map (·.a))[i]'(by simpa using hlt):=by
   rw [List.getElem_map,he,rC_a,rC_a]
  rw [this,List.set_getElem_self]
 ·rw [VS,e3] at hr'
  rw [VS]
  rcases List.mem_append.mp hr' with hr' | hr'
  ·rcases List.mem_append.mp hr' with hr' | hr'
   ·rcases List.mem_cons.mp hr' with rfl | hr'
    ·exact ⟨_,by simp,rfl,fun _ q=>q⟩
    ·rcases List.mem_or_eq_of_mem_set hr' with hr' | rfl
     ·exact ⟨r',by simp [hr'],rfl,fun _ q=>q⟩
     ·refine ⟨rC c (some ⟨tVal,.ref a⟩),by simp [List.mem_of_getElem? hz],by rw [rC_a,rC_a],fun o q=>?_⟩
      obtain ⟨v,q1,q2⟩:=q
      have q2 : v = .ref a:=q2
      exact ⟨v,q1,a,vs,m,q2,kput_self ..,hv.mono fun _ _=>T.mono hle⟩
   ·exact ⟨r',by simp [hr'],rfl,fun _ q=>q⟩
  ·exact ⟨r',by simp [hr'],rfl,fun _ q=>q⟩
end
section
variable {G : Gl} {n : Nat} {env : Env} {mu mu₁ mu₂ mu₃ nu rest W R : List Res} {K : KH} {A : Around} {s : Shared} {E : Value → Shared → Prop} {α β γ : Type} {T : Ty α} {x : α} {U : Ty β} {y : β} {V : Ty γ} {z : γ} {e l r o : Expr} {pos p apos : Pos} {xs ys : List α} {es : List Expr} {ts : List TV}
 {ln cn gn : List Str} {rho ka : List (Option TV)} {ca : List Addr} {id name : Str} {st : Stmt} {ss : List Stmt} {F F' : Flow → KH → List Res → Prop} {P P' : KH → Value → List Res → Prop}
theorem Ev.neg {i : Int} (h : Ev G n env mu e tInt i mu₁) : Ev G n env mu (.UnaryOp .USub e pos) tInt (-i) mu₁:=fun K nu A s hA hs =>
 wpAny_UnaryOp (h.use hA hs fun K1 v s1 h1 o1 ⟨t,r1⟩=>by subst r1; exact neg_int (done h1 (o1.toks _) ⟨_,rfl⟩))
theorem Ev.methBX {id : String} {PA : KH → List Value → Prop} (ho : Ev G n env mu o T x mu₁) (hm : Mth G T x name (.builtin id))
  (ha : ∀ K,Tri G n K mu₁ (spliced (backTo pos (starEach (e :: es) env))) fun K' mu'' vs=>mu'' = mu₂ ∧ PA K' vs)
  (hc : ∀ K v vs,T.rel K v x → PA K vs → Vl G n K mu₂ (call (.builtin id) (v :: vs)) U y mu₃)
  (hp : (backTo pos (starEach (e :: es) env)).any (·.1) = false:=by rfl) (hst : starEach (e :: es) env = (false,eval e env) :: starEach es env:=by rfl) {pl : Sem Bool}
  (he : eval (.Call (.Attribute o name apos) (e :: es) [] pos) env = (do
   let ov ← eval o env
   standAt apos.atName
   let (f,first) ← holding [ov] (getMethod ov name pl)
   callWith pos f first (backTo pos (starEach (e :: es) env)) (backToKw pos (keywordEach [] env))):=by rfl) : Ev G n env mu (.Call (.Attribute o name apos) (e :: es) [] pos) U y mu₃:=fun K nu A s hA hs =>
 methodCall_KW (ho.use hA hs fun K1 v s1 h1 o1 r1=>hm K1 _ v A s1 pl _ _ r1 o1 (Calls.callWith_builtin hp (by
  have e1 : backTo pos (starEach (e :: es) env) = (false,eval e env) :: backTo pos (starEach es env):=by rw [hst]; rfl
  rw [e1]
  refine Calls.evalArgs_plain ?_
  rw [← e1]
  refine Tri.use (ha K1) hA o1 fun K2 mu2 vs s2 h2 o2 ⟨e2,r2⟩=>?_
  subst e2
  exact Vl.use (hc K2 v vs (T.mono h2 r1) r2) hA o2 fun K3 v s3 h3 o3 r3=>done (h1.trans (h2.trans h3)) o3 r3))) he
theorem Ev.replace {a y z : Str} {k k' : Nat} {q q' : Pos} (tF : TopF G) (ho : Ev G n env mu o tStr a mu₁) (hyz : (y == z) = false) (hb : a.length + (a.length + 1) * z.length ≤ 16777216) {pl : Sem Bool}
  (he : eval (.Call (.Attribute o "replace" apos) [.Constant (.str y) k q,.Constant (.str z) k' q'] [] pos) env = (do
   let ov ← eval o env
   standAt apos.atName
   let (f,first) ← holding [ov] (getMethod ov "replace" pl)
   callWith pos f first (backTo pos (starEach [.Constant (.str y) k q,.Constant (.str z) k' q'] env)) (backToKw pos (keywordEach [] env))):=by rfl) :
  Ev G n env mu (.Call (.Attribute o "replace" apos) [.Constant (.str y) k q,.Constant (.str z) k' q'] [] pos) tStr (Txt.replace a y z) mu₁ :=
 Ev.methBX (id:="str.replace") (PA:=fun _ vs=>∃ u v,vs = [.str y u,.str z v] ∧ u ≠ 0 ∧ v ≠ 0 ∧ u ≠ v) ho (mth_str F.slot_str_replace F.type_str_replace)
  (fun K nu A s hA hs=>by
   show wpAny _ A (spliced [(false,eval (.Constant (.str y) k q) env),(false,eval (.Constant (.str z) k' q') env)]) _ _ _
   refine Calls.spliced_cons (wpAny_Constant_str (Calls.spliced_cons (wpAny_Constant_str (Calls.spliced_nil ?_))))
   have:=hs.tk tF.warm
   exact ⟨K,mu₁,.refl K,hs.toks (s.toks + 1 + 1),rfl,s.toks,s.toks + 1,rfl,Nat.ne_of_gt this,Nat.succ_ne_zero _,Nat.ne_of_lt (Nat.lt_succ_self _)⟩)
  (fun K v vs ⟨t,e1⟩ ⟨u,w,e2,h1,h2,h3⟩=>by
   subst e1 e2
   exact Tri.ofToks fun A s hA hkk=>SC.replace h1 h2 h3 hyz hb fun t' k=>⟨⟨k,rfl⟩,t',rfl⟩) (he:=he)
theorem cmp_isNotT {a : String} : Cmp G .IsNot tVal (.type a) tVal (.type a) false:=fun n K mu v w e1 e2=>by
 have e1 : v = .type a:=e1
 have e2 : w = .type a:=e2
 subst e1 e2
 exact .same fun A s _ _=>wpAny_isNot_self rfl ⟨rfl,rfl⟩
theorem cmp_isT {a b : String} : Cmp G .Is tVal (.type a) tVal (.type b) (decide (a = b)):=fun n K mu v w e1 e2=>by
 have e1 : v = .type a:=e1
 have e2 : w = .type b:=e2
 subst e1 e2
 refine .same fun A s _ _=>wpAny_is_plain rfl ⟨rfl,?_⟩
 show Value.bool _ = Value.bool _
 congr 1
 rw [Bool.eq_iff_iff]
 simp
theorem EvX.ifExp {t a b : Expr} {c : Bool} (h : Cond G n env mu t c mu₁) (ha : c = true → EvX G n env mu₁ a P) (hb : c = false → EvX G n env mu₁ b P) : EvX G n env mu (.IfExp t a b pos) P:=fun K nu A s hA hs =>
 wpAny_IfExp (h.use hA hs fun K1 s1 h1 o1=>by
  cases c with
  | true=>exact Tri.use (ha rfl K1) hA o1 fun K2 mu2 v s2 h2 o2 r2=>⟨K2,mu2,h1.trans h2,o2,r2⟩
  | false=>exact Tri.use (hb rfl K1) hA o1 fun K2 mu2 v s2 h2 o2 r2=>⟨K2,mu2,h1.trans h2,o2,r2⟩)
theorem ExS.while_ {test : Expr} {body : List Stmt} (J : Nat → List Res → Prop) (b : Nat → Bool) (h0 : ∀ k mu',J k mu' → ∃ mu'',Cond G n env mu' test (b k) mu'' ∧ (b k = true → Ex G n env mu'' body fun f K mu₃=>match f with | .next=>∃ k',k' < k ∧ J k' mu₃ | .cont=>∃ k',k' < k ∧ J k' mu₃ | .ret v=>F (.ret v) K mu₃ | .brk=>F .next K mu₃) ∧ (b k = false → ∀ K,F .next K mu''))
  (k : Nat) (hJ : J k mu) : ExS G n env mu (.While test body [] pos) F:=fun K nu A s hA hs=>by
 refine wpAny_While (codeAny_whileLoop (fun n s'=>∃ K' mu',KLe K K' ∧ Own G K' (mu' ++ nu) s' ∧ J n mu') (fun m s' ⟨K1,mu1,h1,o1,j1⟩=>?_) k ⟨K,mu,.refl K,hs,hJ⟩)
 obtain ⟨mu2,hc,ht,hf⟩:=h0 m mu1 j1
 refine hc.use hA o1 fun K2 s2 h2 o2=>?_
 cases hb : b m with
 | false =>
  simp only [Bool.false_eq_true,if_false]
  exact wpAny_execs_nil ⟨K2,mu2,h1.trans h2,o2,hf hb K2⟩
 | true =>
  simp only [if_true]
  refine (ht hb).use hA o2 fun K3 mu3 f s3 h3 o3 r3=>?_
  cases f with
  | next=>obtain ⟨k',q1,q2⟩:=r3; exact ⟨k',q1,K3,mu3,h1.trans (h2.trans h3),o3,q2⟩
  | cont=>obtain ⟨k',q1,q2⟩:=r3; exact ⟨k',q1,K3,mu3,h1.trans (h2.trans h3),o3,q2⟩
  | brk=>exact ⟨K3,mu3,h1.trans (h2.trans h3),o3,r3⟩
  | ret v=>exact ⟨K3,mu3,h1.trans (h2.trans h3),o3,r3⟩
end
section
variable {G : Gl} {n : Nat} {env : Env} {mu mu₁ mu₂ mu₃ nu rest W R : List Res} {K : KH} {A : Around} {s : Shared} {E : Value → Shared → Prop} {α β γ : Type} {T : Ty α} {x : α} {U : Ty β} {y : β} {e l r o f : Expr} {pos p apos : Pos} {xs : List α} {ys : List β} {es : List Expr} {ts : List TV}
theorem Own.rework {L L' : List Res} {h' : Heap} {t : Nat} (h : Own G K (L ++ mu) s) (ha : L'.map (·.a) = L.map (·.a)) (hk : ∀ b o,b ∉ L.map (·.a) → s.heap.get? b = some o → h'.get? b = some o) (hP : ∀ r ∈ L',∃ o,h'.get? r.a = some o ∧ r.P K o) (ht : s.toks ≤ t:=by lia) :
  Own G K (L' ++ mu) { s with heap:=h',toks:=t }:=by
 have hin : ∀ {b},b ∈ L.map (·.a) → K b = none ∧ b ≠ cStatics:=fun hb=>by
  obtain ⟨r,hr,rfl⟩:=List.mem_map.mp hb
  exact h.off r (List.mem_append_left _ hr)
 have hnd:=h.nodup
 rw [List.map_append,List.nodup_append] at hnd
 refine ⟨fun b o e=>hk b o (fun hb=>by rw [(hin hb).1] at e; cases e) (h.k b o e),h.old,fun r hr=>?_,fun r hr=>?_,?_,h.gens,h.os,fun c=>Nat.lt_of_lt_of_le (h.tk c) ht,?_,h.kst⟩
 ·rcases List.mem_append.mp hr with hr | hr
  ·exact hP r hr
  ·obtain ⟨o,e,p⟩:=h.led r (List.mem_append_right _ hr)
   exact ⟨o,hk _ _ (fun hb=>hnd.2.2 _ hb _ (List.mem_map.mpr ⟨r,hr,rfl⟩) rfl) e,p⟩
 ·rcases List.mem_append.mp hr with hr | hr
  ·exact hin (ha ▸ List.mem_map.mpr ⟨r,hr,rfl⟩)
  ·exact h.off r (List.mem_append_right _ hr)
 ·rw [List.map_append,ha,← List.map_append]; exact h.nodup
 ·obtain ⟨o,e,q⟩:=of_ns h.st.1
  exact ⟨ns_of (hk _ _ (fun hb=>(hin hb).2 rfl) e) q,hk _ _ (fun hb=>(hin hb).2 rfl) h.st.2⟩
theorem Own.dropMany {L : List Res} {s' : Shared} (h : Own G K (L ++ mu) s) (hk : ∀ b o,b ∉ L.map (·.a) → s.heap.get? b = some o → s'.heap.get? b = some o) (hg : s'.gens = s.gens) (ho : s'.os = s.os) (ht : s.toks ≤ s'.toks:=by exact Nat.le_refl _) : Own G K mu s':=by
 have hin : ∀ {b},b ∈ L.map (·.a) → K b = none ∧ b ≠ cStatics:=fun hb=>by
  obtain ⟨r,hr,rfl⟩:=List.mem_map.mp hb
  exact h.off r (List.mem_append_left _ hr)
 have hnd:=h.nodup
 rw [List.map_append,List.nodup_append] at hnd
 refine ⟨fun b o e=>hk b o (fun hb=>by rw [(hin hb).1] at e; cases e) (h.k b o e),h.old,fun r hr=>?_,fun r hr=>h.off r (List.mem_append_right _ hr),hnd.2.1,hg.trans h.gens,ho.trans h.os,fun c=>Nat.lt_of_lt_of_le (h.tk c) ht,?_,h.kst⟩
 ·obtain ⟨o,e,p⟩:=h.led r (List.mem_append_right _ hr)
  exact ⟨o,hk _ _ (fun hb=>hnd.2.2 _ hb _ (List.mem_map.mpr ⟨r,hr,rfl⟩) rfl) e,p⟩
 ·obtain ⟨o,e,q⟩:=of_ns h.st.1
  exact ⟨ns_of (hk _ _ (fun hb=>(hin hb).2 rfl) e) q,hk _ _ (fun hb=>(hin hb).2 rfl) h.st.2⟩
noncomputable def zipO (f0 : Value) (TI TO : Addr) : Obj:={ cls:=.type "zip", dict:=none,data:=.fields #[f0,.bool false,.bool false,.ref TI,.ref TO],slots:=#[] }
noncomputable def rZip (z TI TO : Addr) (f0 : Value) : Res:=rObj z (zipO f0 TI TO)
noncomputable def rPr (t : Addr) : Res:=⟨t,fun _ o=>∃ a b,o = { cls:=.type "tuple", data:=.seq #[a,b] },fun _ h=>h⟩
noncomputable def zipL (z TI TO i1 i2 l1 l2 : Addr) (f0 : Value) (k : Nat) : List Res:=[rZip z TI TO f0,rPr TO,rIter i1 l1 k,rIter i2 l2 k,rObj TI { cls:=.type "tuple", data:=.seq #[.ref i1,.ref i2] }]
theorem zip_apart {z TI TO i1 i2 l1 l2 : Addr} {f0 : Value} {k : Nat} {o1 o2 : Obj} (h : Own G K (zipL z TI TO i1 i2 l1 l2 f0 k ++ mu) s) (h1 : K l1 = some o1) (h2 : K l2 = some o2) : ZipApart z TI TO i1 i2 l1 l2:=by
 have hnd:=h.nodup
 rw [List.map_append,List.nodup_append] at hnd
 have hd : ([z,TO,i1,i2,TI] : List Addr).Nodup:=hnd.1
 have off : ∀ r ∈ zipL z TI TO i1 i2 l1 l2 f0 k,K r.a = none:=fun r hr=>(h.off r (List.mem_append_left _ hr)).1
 have hz : K z = none:=off (rZip z TI TO f0) (by simp [zipL])
 have hTO : K TO = none:=off (rPr TO) (by simp [zipL])
 have hi1 : K i1 = none:=off (rIter i1 l1 k) (by simp [zipL])
 have hi2 : K i2 = none:=off (rIter i2 l2 k) (by simp [zipL])
 have ne : ∀ {a b : Addr} {o : Obj},K a = some o → K b = none → a ≠ b:=fun e1 e2 e=>by rw [e,e2] at e1; cases e1
 simp only [List.nodup_cons,List.mem_cons,List.not_mem_nil,or_false,not_or] at hd
 obtain ⟨⟨d1,d2,d3,d4⟩,⟨d5,d6,d7⟩,⟨d8,d9⟩,d10,_⟩:=hd
 exact ⟨Ne.symm d4,Ne.symm d1,Ne.symm d2,Ne.symm d3,Ne.symm d7,Ne.symm d9,Ne.symm d10,d5,d6,d8,ne h1 hz,ne h1 hTO,ne h1 hi1,ne h1 hi2,ne h2 hz,ne h2 hTO,ne h2 hi1,ne h2 hi2⟩
theorem mc0 {α : Type} {a : α} {l : List α} : a ∈ a :: l:=List.mem_cons_self
theorem mc1 {α : Type} {a b : α} {l : List α} : b ∈ a :: b :: l:=List.mem_cons_of_mem _ mc0
theorem mc2 {α : Type} {a b c : α} {l : List α} : c ∈ a :: b :: c :: l:=List.mem_cons_of_mem _ mc1
theorem mc3 {α : Type} {a b c d : α} {l : List α} : d ∈ a :: b :: c :: d :: l:=List.mem_cons_of_mem _ mc2
theorem mc4 {α : Type} {a b c d e : α} {l : List α} : e ∈ a :: b :: c :: d :: e :: l:=List.mem_cons_of_mem _ mc3
theorem it_zip {elts : List Expr} {x1 : Nat} {tp : Pos} {z TI TO i1 i2 l1 l2 : Addr} {vs ws : List Value} {m m' : Nat} (hk : K l1 = some (listO vs m)) (hr : All2 (T.rel K) vs xs) (hk' : K l2 = some (listO ws m')) (hr' : All2 (U.rel K) ws ys) :
  ItR G K (.Tuple elts x1 tp) (tPair T U) z (xs.zip ys) (fun k=>zipL z TI TO i1 i2 l1 l2 .none k) [] where
 item:=fun n K' k x hle hx nu A s hA hs=>by
  have D:=zip_apart hs (hle _ _ hk) (hle _ _ hk')
  obtain ⟨oz,ez,pz⟩:=hs.get (r:=rZip z TI TO .none) mc0
  obtain ⟨oT,eT,pT⟩:=hs.get (r:=rObj TI { cls:=.type "tuple", data:=.seq #[.ref i1,.ref i2] }) mc4
  obtain ⟨oO,eO,a,b,pO⟩:=hs.get (r:=rPr TO) mc1
  obtain ⟨q1,e1,p1⟩:=hs.get (r:=rIter i1 l1 k) mc2
  obtain ⟨q2,e2,p2⟩:=hs.get (r:=rIter i2 l2 k) mc3
  have pz : oz = _:=pz
  have pT : oT = _:=pT
  subst pz pT pO
  obtain ⟨hx1,hx2⟩ : xs[k]? = some x.1 ∧ ys[k]? = some x.2:=by
   rw [List.getElem?_zip_eq_some] at hx; exact hx
  obtain ⟨v,hv,rv⟩:=hr.get hx1
  obtain ⟨w,hw,rw'⟩:=hr'.get hx2
  refine wpAny_pyNext_zip_item D ez eT eO (IsListIter.of e1 p1) (IsListIter.of e2 p2) (isList_of (hs.k _ _ (hle _ _ hk))) (isList_of (hs.k _ _ (hle _ _ hk'))) (by simpa using hv) (by simpa using hw) fun h' a1 a2 a3 a4 a5 a6 hkeep=>?_
  obtain ⟨o3,g3,c3,d3⟩:=a3
  obtain ⟨o4,g4,c4,d4⟩:=a4
  have o5:=Own.rework (L:=zipL z TI TO i1 i2 l1 l2 .none k) (L':=zipL z TI TO i1 i2 l1 l2 (rawInt s.heap.objs.size) (k + 1)) (h':=h') (t:=s.toks) hs rfl (fun b ob hb e=>hkeep b ob (fun q=>hb (by rw [q]; exact List.mem_map.mpr ⟨rZip z TI TO .none,mc0,rfl⟩)) (fun q=>hb (by rw [q]; exact List.mem_map.mpr ⟨rPr TO,mc1,rfl⟩)) (fun q=>hb (by rw [q]; exact List.mem_map.mpr ⟨rIter i1 l1 k,mc2,rfl⟩)) (fun q=>hb (by rw [q]; exact List.mem_map.mpr ⟨rIter i2 l2 k,mc3,rfl⟩)) e) (fun r hr=>by
    simp only [zipL,List.mem_cons,List.not_mem_nil,or_false] at hr
    rcases hr with rfl | rfl | rfl | rfl | rfl
    ·exact ⟨_,a1,rfl⟩
    ·exact ⟨_,a2,_,_,rfl⟩
    ·exact ⟨o3,g3,c3,d3⟩
    ·exact ⟨o4,g4,c4,d4⟩
    ·exact ⟨_,hkeep TI _ D.TIz D.TITO D.TIi1 D.TIi2 eT,rfl⟩)
  have hf:=hs.fresh
  have o6 : Own G (kput K' s.heap.objs.size (tupO [v,w] 0)) (zipL z TI TO i1 i2 l1 l2 (rawInt s.heap.objs.size) (k + 1) ++ nu) { s with heap:=h' }:=by
   refine o5.kgrow (kput_le hf) (fun b ob e=>?_) (fun r hr=>?_) ?_
   ·unfold kput at e
    split at e
    ·rename_i hb; subst hb; cases e; exact a5
    ·exact o5.k b ob e
   ·unfold kput
    rw [if_neg]
    ·exact (o5.off r hr).1
    ·have ham : r.a ∈ (zipL z TI TO i1 i2 l1 l2 (rawInt s.heap.objs.size) (k + 1) ++ nu).map (·.a):=List.mem_map.mpr ⟨r,hr,rfl⟩
     have ham : r.a ∈ (zipL z TI TO i1 i2 l1 l2 .none k ++ nu).map (·.a):=ham
     obtain ⟨r',hr',e⟩:=List.mem_map.mp ham
     rw [← e]
     exact Nat.ne_of_lt (hs.lt hr')
   ·unfold kput
    rw [if_neg (Nat.ne_of_lt hs.slt)]
    exact hs.kst.1
  refine ⟨_,zipL z TI TO i1 i2 l1 l2 (rawInt s.heap.objs.size) (k + 1),kput_le hf,o6,.ref s.heap.objs.size,rfl,⟨s.heap.objs.size,v,w,0,rfl,kput_self ..,T.mono (hle.trans (kput_le hf)) rv,U.mono (hle.trans (kput_le hf)) rw'⟩,?_⟩
  intro nu2 A2 s2 hA2 hs2
  obtain ⟨oz,ez,pz⟩:=hs2.get (r:=rZip z TI TO (rawInt s.heap.objs.size)) mc0
  have pz : oz = _:=pz
  subst pz
  refine wpAny_letOwnedTupleGo_zip ez fun h'' hz' hs'=>?_
  exact ⟨_,zipL z TI TO i1 i2 l1 l2 .none (k + 1),.refl _,Own.change (t:=s2.toks) (r:=rZip z TI TO (rawInt s.heap.objs.size)) (r':=rZip z TI TO .none) (mu:=[rPr TO,rIter i1 l1 (k + 1),rIter i2 l2 (k + 1),rObj TI { cls:=.type "tuple", data:=.seq #[.ref i1,.ref i2] }] ++ nu2) hs2 rfl hs' hz' rfl,rfl⟩
 stop:=fun n K' hle nu A s hA hs=>by
  have D:=zip_apart hs (hle _ _ hk) (hle _ _ hk')
  obtain ⟨oz,ez,pz⟩:=hs.get (r:=rZip z TI TO .none) mc0
  obtain ⟨oT,eT,pT⟩:=hs.get (r:=rObj TI { cls:=.type "tuple", data:=.seq #[.ref i1,.ref i2] }) mc4
  obtain ⟨oO,eO,a,b,pO⟩:=hs.get (r:=rPr TO) mc1
  obtain ⟨q1,e1,p1⟩:=hs.get (r:=rIter i1 l1 (xs.zip ys).length) mc2
  obtain ⟨q2,e2,p2⟩:=hs.get (r:=rIter i2 l2 (xs.zip ys).length) mc3
  have pz : oz = _:=pz
  have pT : oT = _:=pT
  subst pz pT pO
  have hl1:=hr.length
  have hl2:=hr'.length
  refine wpAny_pyNext_zip_end hA.1 D ez eT eO (IsListIter.of e1 p1) (IsListIter.of e2 p2) (isList_of (hs.k _ _ (hle _ _ hk))) (isList_of (hs.k _ _ (hle _ _ hk'))) ?_ fun h' hkeep=>?_
  ·rw [List.length_zip]
   rcases Nat.le_total xs.length ys.length with q | q
   ·left; rw [Nat.min_eq_left q]; simp [hl1]
   ·right; rw [Nat.min_eq_right q]; simp [hl2]
  ·refine ⟨K',[],.refl _,Own.dropMany (L:=zipL z TI TO i1 i2 l1 l2 .none (xs.zip ys).length) (s':={ s with heap:=h' }) hs (fun b ob hb e=>hkeep b ob (fun q=>hb (by rw [q]; exact List.mem_map.mpr ⟨rZip z TI TO .none,mc0,rfl⟩)) (fun q=>hb (by rw [q]; exact List.mem_map.mpr ⟨rPr TO,mc1,rfl⟩)) (fun q=>hb (by rw [q]; exact List.mem_map.mpr ⟨rIter i1 l1 (xs.zip ys).length,mc2,rfl⟩)) (fun q=>hb (by rw [q]; exact List.mem_map.mpr ⟨rIter i2 l2 (xs.zip ys).length,mc3,rfl⟩)) e) rfl rfl,rfl,rfl⟩
 self:=fun n K' k hle hkx nu A s hA hs=>by
  obtain ⟨oz,ez,pz⟩:=hs.get (r:=rZip z TI TO .none) mc0
  have pz : oz = _:=pz
  subst pz
  exact wpAny_pyIter_zip ez ⟨K',_,.refl _,hs,rfl,rfl⟩
theorem EvIt.zip {elts : List Expr} {x1 : Nat} {tp : Pos} {a b : Expr} (hf : Ev G n env mu f tVal (.type "zip") mu₁) (ha : EvA G n env mu₁ pos [a,b] [⟨tList T,xs⟩,⟨tList U,ys⟩] mu₂)
  (hp : (backTo pos (starEach [a,b] env)).any (·.1) = false:=by rfl) (hst : starEach [a,b] env = (false,eval a env) :: starEach [b] env:=by rfl)
  (hn : eval (.Call f [a,b] [] pos) env = (do callWith pos (← eval f env) [] (backTo pos (starEach [a,b] env)) (backToKw pos (keywordEach [] env))):=by rfl) : EvIt G n env mu (.Call f [a,b] [] pos) (.Tuple elts x1 tp) (tPair T U) (xs.zip ys) mu₂ []:=fun K nu A s hA hs=>by
 rw [hn]
 refine wpAny_bind (hf.use hA hs fun K1 v s1 h1 o1 r1=>?_)
 have r1 : v = .type "zip" := r1
 subst r1
 refine PySem.callWith_type hp (Tri.use (ha.args hst K1) hA o1 fun K2 mu2 a s2 h2 o2 ⟨e2,vs,e3,r2⟩=>?_)
 subst e2 e3
 obtain ⟨v1,r,rfl,⟨l1,ws1,m1,rfl,k1,q1⟩,hr⟩:=All2.cons_right r2
 obtain ⟨v2,r',rfl,⟨l2,ws2,m2,rfl,k2,q2⟩,hr'⟩:=All2.cons_right hr
 have:=hr'.nil_right; subst this
 refine call_zip_2 (isList_of (o2.k _ _ k1)) (isList_of (o2.k _ _ k2)) fun h' hz hTI hTO hi1 hi2 hsz hkeep=>?_
 obtain ⟨oi1,gi1,ci1,di1⟩:=hi1
 obtain ⟨oi2,gi2,ci2,di2⟩:=hi2
 have o3 : Own G K2 (mu2 ++ nu) { s2 with heap:=h' }:=o2.grow (s':={ s2 with heap:=h' }) hkeep rfl rfl
 have big : ∀ {c : Nat},s2.heap.objs.size ≤ c → K2 c = none ∧ c ≠ cStatics ∧ ∀ q ∈ mu2 ++ nu,q.a ≠ c:=fun {c} hc=>by
  refine ⟨?_,Nat.ne_of_gt (Nat.lt_of_lt_of_le o2.slt hc),fun q hq e=>?_⟩
  ·cases e : K2 c with
   | none=>rfl
   | some o=>exact absurd (o2.klt e) (Nat.not_lt.mpr hc)
  ·exact absurd (o2.lt hq) (Nat.not_lt.mpr (e ▸ hc))
 let N:=s2.heap.objs.size
 obtain ⟨b0,b1,b2⟩:=big (c:=N) (Nat.le_refl _)
 obtain ⟨c0,c1,c2⟩:=big (c:=N + 1) (Nat.le_add_right ..)
 obtain ⟨d0,d1,d2⟩:=big (c:=N + 2) (Nat.le_add_right ..)
 obtain ⟨e0,e1,e2⟩:=big (c:=N + 3) (Nat.le_add_right ..)
 obtain ⟨f0,f1,f2⟩:=big (c:=N + 4) (Nat.le_add_right ..)
 have ne : ∀ {i j : Nat},i ≠ j → N + i ≠ N + j:=fun h=>by lia
 have p1:=o3.addOwned (rObj (N + 2) { cls:=.type "tuple", data:=.seq #[.ref N,.ref (N + 1)] }) hTI rfl d0 d1 d2
 have p2:=p1.addOwned (rIter (N + 1) l2 0) gi2 ⟨ci2,di2⟩ c0 c1 (fun q hq=>by
  rcases List.mem_cons.mp hq with rfl | hq
  ·exact ne (by decide)
  ·exact c2 q hq)
 have p3:=p2.addOwned (rIter N l1 0) gi1 ⟨ci1,di1⟩ b0 b1 (fun q hq=>by
  rcases List.mem_cons.mp hq with rfl | hq
  ·exact ne (i:=1) (j:=0) (by decide)
  rcases List.mem_cons.mp hq with rfl | hq
  ·exact ne (i:=2) (j:=0) (by decide)
  ·exact b2 q hq)
 have p4:=p3.addOwned (rPr (N + 3)) hTO ⟨_,_,rfl⟩ e0 e1 (fun q hq=>by
  rcases List.mem_cons.mp hq with rfl | hq
  ·exact ne (i:=0) (j:=3) (by decide)
  rcases List.mem_cons.mp hq with rfl | hq
  ·exact ne (i:=1) (j:=3) (by decide)
  rcases List.mem_cons.mp hq with rfl | hq
  ·exact ne (i:=2) (j:=3) (by decide)
  ·exact e2 q hq)
 have p5:=p4.addOwned (rZip (N + 4) (N + 2) (N + 3) .none) hz rfl f0 f1 (fun q hq=>by
  rcases List.mem_cons.mp hq with rfl | hq
  ·exact ne (i:=3) (j:=4) (by decide)
  rcases List.mem_cons.mp hq with rfl | hq
  ·exact ne (i:=0) (j:=4) (by decide)
  rcases List.mem_cons.mp hq with rfl | hq
  ·exact ne (i:=1) (j:=4) (by decide)
  rcases List.mem_cons.mp hq with rfl | hq
  ·exact ne (i:=2) (j:=4) (by decide)
  ·exact f2 q hq)
 refine ⟨K2,zipL (N + 4) (N + 2) (N + 3) N (N + 1) l1 l2 .none 0 ++ mu2,h1.trans h2,p5,?_⟩
 intro nu3 A3 s3 hA3 hs3
 obtain ⟨oz,ez,pz⟩:=hs3.get (r:=rZip (N + 4) (N + 2) (N + 3) .none) (by simp [zipL])
 have pz : oz = _:=pz
 subst pz
 exact wpAny_pyIter_zip ez ⟨K2,_,.refl _,hs3,N + 4,(fun k=>zipL (N + 4) (N + 2) (N + 3) N (N + 1) l1 l2 .none k),rfl,rfl,it_zip k1 q1 k2 q2⟩
end
theorem All2.permL {α : Type u} {β : Type v} {R : β → α → Prop} {l l' : List β} (p : l'.Perm l) : ∀ {xs : List α},All2 R l xs → ∃ zs,zs.Perm xs ∧ All2 R l' zs:=by
 induction p with
 | nil=>intro xs h; exact ⟨xs,.refl _,h⟩
 | cons a _ ih =>
  intro xs h
  cases xs with
  | nil=>exact h.elim
  | cons x xs=>obtain ⟨zs,p,q⟩:=ih h.2; exact ⟨x :: zs,p.cons x,h.1,q⟩
 | swap a b l =>
  intro xs h
  match xs,h with
  | x :: y :: xs,⟨h1,h2,h3⟩=>exact ⟨y :: x :: xs,List.Perm.swap ..,h2,h1,h3⟩
 | trans _ _ ih1 ih2 =>
  intro xs h
  obtain ⟨zs,p,q⟩:=ih2 h
  obtain ⟨ys,p',q'⟩:=ih1 q
  exact ⟨ys,p'.trans p,q'⟩
theorem All2.zipR {α : Type u} {β γ : Type v} {R : β → α → Prop} {S : γ → α → Prop} : ∀ {ks : List γ} {vs : List β} {xs : List α},All2 S ks xs → All2 R vs xs → All2 (fun (p : γ × β) x=>S p.1 x ∧ R p.2 x) (ks.zip vs) xs
 | [],[],[],_,_=>trivial
 | _ :: _,_ :: _,_ :: _,⟨a,b⟩,⟨c,d⟩=>⟨⟨a,c⟩,All2.zipR b d⟩
 | [],_,_ :: _,h,_=>h.elim
 | _ :: _,_,[],h,_=>h.elim
 | _,[],_ :: _,_,h=>h.elim
 | _,_ :: _,[],_,h=>h.elim
theorem all2_intsMap {α : Type} {k : α → Int} {K : KH} : ∀ {vs : List Value} {xs : List α},IntsAre vs (xs.map k) → All2 (fun v x=>tInt.rel K v (k x)) vs xs
 | _,[],h=>by cases h; trivial
 | _,x :: xs,h=>by cases h with | cons _ t h=>exact ⟨⟨t,rfl⟩,all2_intsMap h⟩
theorem intsAre_snoc {n : Int} {t : Tok} {vs : List Value} {ns : List Int} (h : IntsAre vs ns) : IntsAre (vs ++ [.int n t]) (ns ++ [n]):=by
 induction h with
 | nil=>exact .cons n t .nil
 | cons n' t' _ ih=>exact .cons n' t' ih
theorem ints_keys {vs : List Value} {ns : List Int} (h : IntsAre vs ns) : ∀ v ∈ vs,∃ n t,v = .int n t:=by
 induction h with
 | nil=>intro v hv; cases hv
 | cons n t _ ih=>intro v hv; rcases List.mem_cons.mp hv with rfl | hv; exact ⟨n,t,rfl⟩; exact ih v hv
theorem sk_args1 (a v : Value) : argsOk "sorted" ⟨[a],[(Str.ofString "key", v)]⟩:=by unfold argsOk; kernel_rfl
theorem sk_args2 (a v : Value) : argsOk "list.sort" ⟨[a],[(Str.ofString "key", v)]⟩:=by unfold argsOk; kernel_rfl
noncomputable def skTail (a kS : Addr) (before : Nat) (st : SortSt) : Sem PySem.Fin:=do
 let sorted:=(arrOf st).map (·.2)
 Builtin.List.listUpdate (.ref kS) fun _=>#[]
 letGo ((arrOf st).map (·.1)).toList (failedOf st).toList
 let touched:=(← seqEpoch a) != before
 Builtin.List.listUpdate (.ref a) fun _=>if false then sorted.reverse else sorted
 if let some e:=failedOf st then rule "list.sort.comparison-raised"; throw e
 if touched then rule "list.sort.modified"; raiseError "ValueError" "list modified during sort"
 ret .none
noncomputable def skMid (a kS : Addr) (items : Array Value) (before : Nat) (keys : Array Value) : Sem PySem.Fin:=do
 let pairs:=keys.zip items
 if false then rule "list.sort.reverse"
 let kind ← if items.size < 2 then pure general' else keyKind' keys
 let ((),st) ← (if items.size < 2 then pure () else sortRuns').run (SortSt.mk' kind (if false then pairs.reverse else pairs) #[] 7 none)
 skTail a kS before st
noncomputable def skLoop (a kS q : Addr) (items : Array Value) (before : Nat) : Sem PySem.Fin:=do
 rule "list.sort.key"
 for x in items do
  match ← (call (.ref q) [x]).attempt with
  | .ok k=>Builtin.List.listUpdate (.ref kS) (·.push k)
  | .error e =>
   rule "list.sort.key-raised"
   let made ← Builtin.List.listItems (.ref kS)
   Builtin.List.listUpdate (.ref kS) fun _=>#[]
   letGo made.toList.reverse [e]
   Builtin.List.listUpdate (.ref a) fun _=>items; throw e
 let keys ← Builtin.List.listItems (.ref kS)
 skMid a kS items before keys
section
variable {G : Gl} {n : Nat} {env : Env} {mu mu₁ mu₂ mu₃ nu rest W R : List Res} {K : KH} {A : Around} {s : Shared} {E : Value → Shared → Prop} {α β γ : Type} {T : Ty α} {x : α} {xs : List α}
theorem own_seq {a : Addr} {xs : Array Value} {m : Nat} {f : Array Value → Array Value} (h : Own G K (rObj a (seqObj "list" xs m) :: mu) s) : ∃ m',Own G K (rObj a (seqObj "list" (f xs) m') :: mu) { s with heap:=s.heap.update a (Obj.mapSeq f) }:=by
 obtain ⟨o,e,p⟩:=h.get (r:=rObj a (seqObj "list" xs m)) List.mem_cons_self
 have p : o = _:=p
 subst p
 refine ⟨_,Own.change (t:=s.toks) (r':=rObj a (seqObj "list" (f xs) (if (f xs).size == xs.size then m else m + 1))) h rfl (Heap.SameBut.update ..) (get?_update_seq e f) rfl⟩
theorem sk_tail {a kS : Addr} {keys : Array Value} {e e1 : Nat} {st : SortSt} {kf : α → Int} {vs : List Value} {P : PySem.Fin → Shared → Prop} (hs : Own G K (rObj kS (seqObj "list" keys e) :: rObj a (seqObj "list" #[] e1) :: mu) s)
  (hk : IntsAre keys.toList (xs.map kf)) (hv : All2 (T.rel K) vs xs) (h64 : xs.length < 64) (hp : (arrOf st).Perm (keys.zip vs.toArray)) (hso : SortedTo (arrOf st) (arrOf st).size) (hfl : failedOf st = none)
  (h : ∀ s' out m zs,Own G K (rObj a (seqObj "list" out m) :: mu) s' → zs.Perm xs → All2 (T.rel K) out.toList zs → zs.Pairwise (fun p q=>kf p ≤ kf q) → P (.done (.ret .none)) s') :
  wpAny G.M A (skTail a kS e1 st) P E s:=by
 have l1:=hk.length
 have l2:=hv.length
 rw [Array.length_toList,List.length_map] at l1
 have hsz : (arrOf st).size = xs.length:=by rw [hp.size_eq,Array.size_zip,l1,List.size_toArray,l2,Nat.min_self]
 have h24 : sizeLine = 16777216:=rfl
 unfold skTail
 try dsimp only
 obtain ⟨o,ek,pk⟩:=hs.get (r:=rObj kS (seqObj "list" keys e)) List.mem_cons_self
 have pk : o = _:=pk
 subst pk
 refine wpAny_bind (listUpdate_at ek rfl ?_ (by lia) (by simp))
 obtain ⟨m',o1⟩:=own_seq (f:=fun _=>(#[] : Array Value)) hs
 refine wpAny_bind (wpAny_letGo ?_)
 have o2:=o1.perm (List.Perm.swap ..)
 obtain ⟨o,ea,pa⟩:=o2.get (r:=rObj a (seqObj "list" #[] e1)) List.mem_cons_self
 have pa : o = _:=pa
 subst pa
 refine wpAny_bind (seqEpoch_at ea rfl ?_)
 refine wpAny_bind (listUpdate_at ea rfl ?_ (by simp) (by simp only [Bool.false_eq_true,if_false,Array.size_map]; lia))
 obtain ⟨m'',o3⟩:=own_seq (f:=fun _=>if false = true then ((arrOf st).map (·.2)).reverse else (arrOf st).map (·.2)) o2
 rw [hfl]
 simp only [bne_self_eq_false,Bool.false_eq_true,if_false]
 simp only [Bool.false_eq_true,if_false] at o3
 have o4:=o3.sub ((List.sublist_cons_self _ mu).cons_cons _)
 have hz : (keys.zip vs.toArray).toList = keys.toList.zip vs:=by cases keys; simp
 have p1 : (arrOf st).toList.Perm (keys.toList.zip vs):=by rw [← hz]; exact Array.perm_iff_toList_perm.mp hp
 obtain ⟨zs,q1,q2⟩:=All2.permL p1 (All2.zipR (all2_intsMap (K:=K) hk) hv)
 refine wpAny_pure (h _ _ _ zs o4 q1 ?_ ?_)
 ·rw [Array.toList_map]
  have : ∀ {l : List (Value × Value)} {zs : List α},All2 (fun (p : Value × Value) x=>tInt.rel K p.1 (kf x) ∧ T.rel K p.2 x) l zs → All2 (T.rel K) (l.map (·.2)) zs:=by
   intro l
   induction l with
   | nil=>intro zs h; cases zs with | nil=>trivial | cons _ _=>exact h.elim
   | cons p l ih=>intro zs h; cases zs with | nil=>exact h.elim | cons z zs=>exact ⟨h.1.2,ih h.2⟩
  exact this q2
 ·rw [List.pairwise_iff_getElem]
  intro i j hi hj hij
  have hlz : zs.length = (arrOf st).size:=by rw [← q2.length,Array.length_toList]
  have hi' : i < (arrOf st).size:=by lia
  have hj' : j < (arrOf st).size:=by lia
  have q:=hso i j (Nat.le_of_lt hij) hj'
  rw [K_eq hi',K_eq hj'] at q
  have f : ∀ (i : Nat) (hi : i < zs.length) (hi' : i < (arrOf st).size),numOf (arrOf st)[i].1 = kf zs[i]:=fun i hi hi'=>by
   obtain ⟨z,e1,⟨t,e2⟩,_⟩:=q2.getV (i:=i) (v:=(arrOf st)[i]) (by simp [hi'])
   rw [List.getElem?_eq_getElem hi] at e1
   cases e1
   rw [e2]; rfl
  rw [f i hi hi',f j hj hj'] at q
  exact q
theorem sk_mid {a kS : Addr} {keys : Array Value} {e e1 : Nat} {kf : α → Int} {vs : List Value} {P : PySem.Fin → Shared → Prop} (hs : Own G K (rObj kS (seqObj "list" keys e) :: rObj a (seqObj "list" #[] e1) :: mu) s)
  (hk : IntsAre keys.toList (xs.map kf)) (hv : All2 (T.rel K) vs xs) (h64 : xs.length < 64)
  (h : ∀ s' out m zs,Own G K (rObj a (seqObj "list" out m) :: mu) s' → zs.Perm xs → All2 (T.rel K) out.toList zs → zs.Pairwise (fun p q=>kf p ≤ kf q) → P (.done (.ret .none)) s') :
  wpAny G.M A (skMid a kS vs.toArray e1 keys) P E s:=by
 have l1:=hk.length
 have l2:=hv.length
 rw [Array.length_toList,List.length_map] at l1
 have hzs : (keys.zip vs.toArray).size = xs.length:=by rw [Array.size_zip,l1,List.size_toArray,l2,Nat.min_self]
 unfold skMid
 try dsimp only
 simp only [Bool.false_eq_true,if_false]
 by_cases h2 : vs.toArray.size < 2
 ·rw [if_pos h2,if_pos h2]
  refine wpAny_bind (wpAny_pure ?_)
  rw [StateT.run_pure]
  refine wpAny_bind (wpAny_pure ?_)
  try dsimp only
  refine sk_tail (st:=SortSt.mk' general' (keys.zip vs.toArray) #[] 7 none) hs hk hv h64 (.refl _) ?_ rfl h
  intro i j hij hj
  have hj2 : j < (keys.zip vs.toArray).size:=hj
  rw [hzs] at hj2
  rw [List.size_toArray] at h2
  have : i = j:=by lia
  subst this
  exact Int.le_refl _
 ·rw [if_neg h2,if_neg h2]
  rw [List.size_toArray] at h2
  have hkind : keyKind' keys = pure oneType':=by
   obtain ⟨v₁,v₂,r,ek⟩ : ∃ v₁ v₂ r,keys.toList = v₁ :: v₂ :: r:=by
    have hl : 2 ≤ keys.toList.length:=by rw [Array.length_toList]; lia
    match keys.toList,hl with
    | v₁ :: v₂ :: r,_=>exact ⟨v₁,v₂,r,rfl⟩
   have e2 : keys = (v₁ :: v₂ :: r).toArray:=by rw [← ek,Array.toArray_toList]
   rw [ek] at hk
   rw [e2]
   exact keyKind_ints hk
  rw [hkind]
  refine wpAny_bind (wpAny_pure ?_)
  have hz : (keys.zip vs.toArray).toList = keys.toList.zip vs:=by cases keys; simp
  refine wpAny_bind (wpAny_mono (wpS_sortRuns (a₀:=keys.zip vs.toArray) (st:=SortSt.mk' oneType' (keys.zip vs.toArray) #[] 7 none)
   (Q:=fun _ st'=>(arrOf st').Perm (keys.zip vs.toArray) ∧ failedOf st' = none ∧ SortedTo (arrOf st') (keys.zip vs.toArray).size)
   (fun p hp=>by
    rw [hz] at hp
    obtain ⟨p1,p2⟩:=p
    exact ints_keys hk _ (List.of_mem_zip hp).1) ⟨.refl _,rfl,rfl,rfl⟩ (by lia) (by lia) fun st' a1 a2 a3=>⟨a1,a2,a3⟩) ?_ fun _ _ e=>e)
  rintro ⟨⟨⟩,st'⟩ s' ⟨rfl,hp,hf,hso⟩
  try dsimp only
  exact sk_tail hs hk hv h64 hp (by rw [hp.size_eq]; exact hso) hf h
theorem sk_loop {a kS q : Addr} {e1 : Nat} {kf : α → Int} {vs : List Value} {P : PySem.Fin → Shared → Prop} (hA : Room n A) (hs : Own G K (rObj kS (seqObj "list" #[] 0) :: rObj a (seqObj "list" #[] e1) :: (mu ++ nu)) s)
  (hv : All2 (T.rel K) vs xs) (h64 : xs.length < 64) (turn : ∀ K' x v,KLe K K' → x ∈ xs → T.rel K' v x → Tri G n K' mu (call (.ref q) [v]) fun K'' mu'' r=>mu'' = mu ∧ tInt.rel K'' r (kf x))
  (h : ∀ K' s' out m zs,KLe K K' → Own G K' (rObj a (seqObj "list" out m) :: (mu ++ nu)) s' → zs.Perm xs → All2 (T.rel K') out.toList zs → zs.Pairwise (fun p q=>kf p ≤ kf q) → P (.done (.ret .none)) s') :
  wpAny G.M A (skLoop a kS q vs.toArray e1) P E s:=by
 have h24 : sizeLine = 16777216:=rfl
 unfold skLoop
 refine wpAny_bind (wpAny_rule ?_)
 rw [← Array.forIn_toList]
 simp only [List.toList_toArray]
 refine wpAny_bind (wpAny_forIn_list _ (fun (l : List Value) _ s'=>∃ (K' : KH) (kA : Array Value) (e : Nat) (ds : List α) (rs : List α),KLe K K' ∧ Own G K' (rObj kS (seqObj "list" kA e) :: rObj a (seqObj "list" #[] e1) :: (mu ++ nu)) s' ∧ xs = ds ++ rs ∧ All2 (T.rel K') l rs ∧ IntsAre kA.toList (ds.map kf)) _ ?turn ?fin vs _ ⟨K,#[],0,[],xs,.refl K,hs,rfl,hv,by simpa using IntsAre.nil⟩)
 case turn =>
  rintro v l _ s' ⟨K',kA,e,ds,rs,hle,ho,hxs,hl,hk⟩
  cases rs with
  | nil=>exact hl.elim
  | cons x rs =>
   have hx : x ∈ xs:=by rw [hxs]; simp
   have hko:=hk.length
   rw [Array.length_toList,List.length_map] at hko
   have hlen : xs.length = ds.length + (rs.length + 1):=by rw [hxs]; simp
   have ho1 : Own G K' (mu ++ (rObj kS (seqObj "list" kA e) :: rObj a (seqObj "list" #[] e1) :: nu)) s':=ho.perm (by
    have : ∀ (x y : Res),(x :: y :: (mu ++ nu)).Perm (mu ++ (x :: y :: nu)):=fun x y =>
     ((List.perm_middle (l₁:=mu) (a:=y) (l₂:=nu)).symm.cons x).trans (List.perm_middle (l₁:=mu) (a:=x) (l₂:=y :: nu)).symm
    exact this _ _)
   refine wpAny_bind (wpAny_attempt (Tri.use (turn K' x v hle hx hl.1) hA ho1 fun K2 mu2 r s2 h2 o2 ⟨e2,t,er⟩=>?_))
   subst e2 er
   try dsimp only
   have o2 : Own G K2 (rObj kS (seqObj "list" kA e) :: rObj a (seqObj "list" #[] e1) :: (mu2 ++ nu)) s2:=o2.perm (by
    have : ∀ (x y : Res),(mu2 ++ (x :: y :: nu)).Perm (x :: y :: (mu2 ++ nu)):=fun x y =>
     (List.perm_middle (l₁:=mu2) (a:=x) (l₂:=y :: nu)).trans ((List.perm_middle (l₁:=mu2) (a:=y) (l₂:=nu)).cons x)
    exact this _ _)
   obtain ⟨o,ek,pk⟩:=o2.get (r:=rObj kS (seqObj "list" kA e)) List.mem_cons_self
   have pk : o = _:=pk
   subst pk
   refine wpAny_bind (listUpdate_at ek rfl ?_ (by lia) (by rw [Array.size_push]; lia))
   obtain ⟨m',o3⟩:=own_seq (f:=(·.push (.int (kf x) t))) o2
   refine wpAny_pure ⟨K2,kA.push (.int (kf x) t),m',ds ++ [x],rs,hle.trans h2,o3,by rw [hxs]; simp,hl.2.mono fun _ _=>T.mono h2,?_⟩
   rw [Array.toList_push,List.map_append]
   exact intsAre_snoc hk
 case fin =>
  rintro _ s' ⟨K',kA,e,ds,rs,hle,ho,hxs,hl,hk⟩
  have : rs = []:=by cases rs with | nil=>rfl | cons _ _=>exact hl.elim
  subst this
  rw [List.append_nil] at hxs
  subst hxs
  obtain ⟨o,ek,pk⟩:=ho.get (r:=rObj kS (seqObj "list" kA e)) List.mem_cons_self
  have pk : o = _:=pk
  subst pk
  refine wpAny_bind (listItems_at ek rfl ?_)
  exact sk_mid ho hk (hv.mono fun _ _=>T.mono hle) h64 fun s' out m zs o1 p1 p2 p3=>h K' s' out m zs hle o1 p1 p2 p3
theorem cal_sortedK {q : Addr} {kf : α → Int} {ys : List α} (h64 : xs.length < 64) {U : Ty Unit} (hU : ∀ K v,U.rel K v () → v = .ref q)
  (turn : ∀ K' x v,KLe K K' → x ∈ xs → T.rel K' v x → Tri G n K' mu (call (.ref q) [v]) fun K'' mu'' r=>mu'' = mu ∧ tInt.rel K'' r (kf x))
  (hy : ∀ zs,zs.Perm xs → zs.Pairwise (fun p q=>kf p ≤ kf q) → zs = ys) {l f : Value} (hl : (tList T).rel K l xs) (hf : f = .ref q) :
  Vl G (n + 1) K mu (call (.builtin "sorted") [l] [(Str.ofString "key", f)]) (tList T) ys mu:=fun nu A s hA hs=>by
 obtain ⟨a0,vs,m0,rfl,hk0,hv⟩:=hl
 subst hf
 have h24 : sizeLine = 16777216:=rfl
 have hl:=hv.length
 have La:=isList_of (hs.k _ _ hk0)
 refine call_function_entry_kw kind_sorted plain_sorted entry_sorted (sk_args1 _ _) ?_
 unfold Builtin.«sorted»
 refine wpAny_bind (m:=checkCount "sorted" 1 1 _) (wpAny_pure ?_)
 refine wpAny_bind (collect_list La ?_ (by lia))
 refine wpAny_bind (wpAny_newList ?_ (by lia))
 have o1:=hs.pushOwned (seqObj "list" #[] 0) (rObj s.heap.objs.size (seqObj "list" #[] 0)) rfl rfl
 obtain ⟨m1,o2⟩:=own_seq (f:=(· ++ vs.toArray)) o1
 have hsz : ((s.heap.push (seqObj "list" #[] 0)).update s.heap.objs.size (Obj.mapSeq (· ++ vs.toArray))).objs.size = s.heap.objs.size + 1:=by
  rw [Heap.size_update,size_push']
 have o3:=o2.pushOwned (seqObj "list" vs.toArray 0) (rObj (s.heap.objs.size + 1) (seqObj "list" vs.toArray 0)) hsz.symm rfl
 have o3:=o3.sub ((List.sublist_cons_self _ _).cons_cons _)
 show wpAny _ _ _ _ _ { s with heap:=((s.heap.push (seqObj "list" #[] 0)).update s.heap.objs.size (Obj.mapSeq (· ++ vs.toArray))).push (seqObj "list" vs.toArray 0) }
 rw [hsz]
 generalize hs3 : ({ s with heap:=((s.heap.push (seqObj "list" #[] 0)).update s.heap.objs.size (Obj.mapSeq (· ++ vs.toArray))).push (seqObj "list" vs.toArray 0) } : Shared) = s3
 have o3 : Own G K (rObj (s.heap.objs.size + 1) (seqObj "list" vs.toArray 0) :: (mu ++ nu)) s3:=by rw [← hs3]; exact o3
 generalize s.heap.objs.size + 1 = a at o3 ⊢
 obtain ⟨ob,ea,pa⟩:=o3.get (r:=rObj a (seqObj "list" vs.toArray 0)) List.mem_cons_self
 have pa : ob = _:=pa
 subst pa
 refine wpAny_bind (wpAny_holding (wpAny_call_entry_kw slot_list_sort ⟨_,ea,rfl⟩ entry_list_sort ?body (sk_args2 _ _)))
 case body =>
  show wpAny G.M A.in1.in1 (do
    let items ← Builtin.List.listItems (.ref a)
    Builtin.List.listUpdate (.ref a) fun _=>#[]
    let before ← seqEpoch a
    let held ← newTuple items.toList
    let keyStore ← newList []
    holding [held,keyStore] (match keyStore with | .ref kS=>skLoop a kS q items before | _=>Builtin.«list.sort» ⟨[.ref a],[(Str.ofString "key", .ref q)]⟩)) _ _ _
  refine wpAny_bind (listItems_at ea rfl ?_)
  refine wpAny_bind (listUpdate_at ea rfl ?_ (by simp; lia) (by simp))
  obtain ⟨e1,o4⟩:=own_seq (f:=fun _=>(#[] : Array Value)) o3
  generalize hs4 : ({ s3 with heap:=s3.heap.update a (Obj.mapSeq fun _=>(#[] : Array Value)) } : Shared) = s4 at o4 ⊢
  obtain ⟨ob,ea4,pa⟩:=o4.get (r:=rObj a (seqObj "list" #[] e1)) List.mem_cons_self
  have pa : ob = _:=pa
  subst pa
  refine wpAny_bind (seqEpoch_at ea4 rfl ?_)
  refine wpAny_bind (wpAny_newTuple ?_ (by simp; lia))
  have o5:=o4.push (seqObj "tuple" vs.toArray 0)
  generalize hs5 : ({ s4 with heap:=s4.heap.push (seqObj "tuple" vs.toArray 0) } : Shared) = s5 at o5
  refine wpAny_bind (wpAny_newList ?_ (by simp))
  have o6:=o5.pushOwned (seqObj "list" #[] 0) (rObj s5.heap.objs.size (seqObj "list" #[] 0)) rfl rfl
  refine wpAny_holding ?_
  have hA2 : Room n A.in1.in1:=⟨hA.1,by have:=hA.2.1; show A.depth + _ ≤ _; lia,by have:=hA.2.2; show A.units + 1 + 1 + _ ≤ _; lia⟩
  have hle0 : KLe K (kput K s4.heap.objs.size (seqObj "tuple" vs.toArray 0)):=kput_le o4.fresh
  refine sk_loop hA2 o6 (hv.mono fun _ _=>T.mono hle0) (by lia) (fun K' x v hle hx hr=>turn K' x v (hle0.trans hle) hx hr) fun K' s' out m zs hle o7 p1 p2 p3=>⟨_,rfl,?_⟩
  have:=hy zs p1 p3
  subst this
  obtain ⟨ob,e7,hk7,o8⟩:=Own.freeze o7
  have e7 : ob = _:=e7
  subst e7
  have hle2:=kput_le (o:=seqObj "list" out m) hk7
  refine wpAny_pure ⟨_,rfl,_,mu,hle0.trans (hle.trans hle2),o8,rfl,a,out.toList,m,rfl,?_,p2.mono fun _ _=>T.mono hle2⟩
  have : listO out.toList m = seqObj "list" out m:=by unfold listO; simp
  rw [this]
  exact kput_self ..
end
noncomputable def tabO (ps : Array Value) : Obj:={ cls:=.none,data:=.fields ps }
noncomputable def rTab (P : Addr) (pos : Pos) : Res:=⟨P,fun K o=>∃ ps,o = tabO ps ∧ TriplesOk ps.toList ∧ (codeAmong pos ps.toList = none ∨ ∃ c' oc vs q t,codeAmong pos ps.toList = some (.ref c') ∧ K c' = some oc ∧ oc.data = .fields vs ∧ vs[1]? = some (.str q t)),fun hle h=>by
 obtain ⟨ps,e,t,h⟩:=h
 refine ⟨ps,e,t,h.imp id fun ⟨c',oc,vs,q,t,a,b,c⟩=>⟨c',oc,vs,q,t,a,hle _ _ b,c⟩⟩⟩
structure CodeOk (G : Gl) (c P : Addr) : Prop where
 tb : G.TB = P
 at' : ∃ o vs file tf flags tg inF text tt,(c ≠ G.TB ∧ c ≠ cStatics) ∧ G.H.get? c = some o ∧ o.cls = .type "code" ∧ o.data = .fields vs ∧ vs.getD 11 .none = .ref P ∧ vs.getD 18 .none = .str file tf ∧ vs.getD 7 .none = .int flags tg ∧ vs.getD 9 .none = .bool inF ∧ vs.getD 10 .none = .int text tt ∧ vs[11]? = some (.ref P)
structure BmOk (G : Gl) : Prop where
 at' : ∃ mg bm ob,G.H.Ns mainGlobals mg ∧ mg "__builtins__" = some (.ref bm) ∧ bm ≠ builtinsNs ∧ bm ≠ G.TB ∧ bm ≠ cStatics ∧ G.H.get? bm = some ob ∧ ob.cls = .type "module" ∧ ob.dict = some builtinsNs ∧ ob.data = .plain
noncomputable def lamFD (qn : Str) (params : Arguments) (body : Expr) (sc : Scope) (clos : List (Str × Addr)) (pm cd ct : Value) : FuncData :=
 { name:="<lambda>", qualname:=qn,params,body:=.expr body,scope:=sc,globals:=mainGlobals,closure:=clos,defaults:=.none,kwdefaults:=.none,doc:=.none,pyModule:=pm,annotations:=none,code:=cd,closureTuple:=ct,builtins:=builtinsNs }
noncomputable def lamO (qn : Str) (params : Arguments) (body : Expr) (sc : Scope) (clos : List (Str × Addr)) (pm cd ct : Value) : Obj:={ cls:=.type "function", data:=.func (lamFD qn params body sc clos pm cd ct) }
noncomputable def tLam (qn : Str) (params : Arguments) (body : Expr) (sc : Scope) (clos : List (Str × Addr)) : Ty Unit:=⟨fun K v _=>∃ q c oc vs cq t pm ct,v = .ref q ∧ K q = some (lamO qn params body sc clos pm (.ref c) ct) ∧ K c = some oc ∧ oc.data = .fields vs ∧ vs[1]? = some (.str cq t),
 fun hle h=>let ⟨q,c,oc,vs,cq,t,pm,ct,a,b,d,e⟩:=h; ⟨q,c,oc,vs,cq,t,pm,ct,a,hle _ _ b,hle _ _ d,e⟩⟩
section
variable {G : Gl} {n : Nat} {env : Env} {mu mu₁ mu₂ mu₃ nu rest W R : List Res} {K : KH} {A : Around} {s : Shared} {E : Value → Shared → Prop} {α β γ : Type} {T : Ty α} {x : α} {U : Ty β} {y : β} {pos : Pos} {ln cn fn gn : List Str} {sc : Scope} {params : Arguments} {body : Expr} {c P : Addr} {i : Nat} {qn : Str}
theorem fin_lam {c' : Addr} {oc : Obj} {vs : Array Value} {cq : Str} {t : Tok} {clos : List (Str × Addr)} {ct : Value} {mg : Str → Option Value} {bm : Addr} {ob : Obj} (hG : TopF G) (hs : Own G K mu s) (hc : K c' = some oc) (hd : oc.data = .fields vs) (hq : vs[1]? = some (.str cq t))
  (h1 : G.H.Ns mainGlobals mg) (h2 : mg "__builtins__" = some (.ref bm)) (h3 : bm ≠ builtinsNs) (h4 : bm ≠ G.TB) (h5 : bm ≠ cStatics) (h6 : G.H.get? bm = some ob) (h7 : ob.cls = .type "module") (h8 : ob.dict = some builtinsNs) (h9 : ob.data = .plain) {Q : Value → Shared → Prop}
  (h : ∀ K' v s',KLe K K' → Own G K' mu s' → (tLam qn params body sc clos).rel K' v () → Q v s') :
  wpAny G.M A (do
   let b ← builtinsFor mainGlobals env.builtins
   let m ← nsGet mainGlobals "__name__"
   let d ← (pure .none : Sem Value)
   newObj (.type "function") (.func { name:="<lambda>", qualname:=qn,params,body:=.expr body,scope:=sc,globals:=mainGlobals,closure:=clos,closureTuple:=ct,code:=.ref c',builtins:=b,defaults:=.none,kwdefaults:=.none,annotations:=none,pyModule:=m.getD .none,doc:=d })) Q E s:=by
 have hns:=hs.ns h1 hG.tbG (by decide)
 refine wpAny_bind (wpAny_builtinsFor hns h2 h3 (hs.k _ _ (hs.old _ _ h4 h5 h6)) h7 h8 h9 ?_)
 refine wpAny_bind (wpAny_nsGet hns ?_)
 refine wpAny_bind (wpAny_pure ?_)
 refine wpAny_newObj_type ?_ (by size_fits)
 have o1:=hs.push (lamO qn params body sc clos ((mg "__name__").getD .none) (.ref c') ct)
 have hle:=kput_le (o:=lamO qn params body sc clos ((mg "__name__").getD .none) (.ref c') ct) hs.fresh
 exact h _ _ _ hle o1 ⟨_,c',oc,vs,cq,t,_,ct,rfl,kput_self ..,hle _ _ hc,hd,hq⟩
theorem lam_new {s : Shared} {c' : Addr} {ps : Array Value} {h' : Heap} {tk : Nat} (eP : s.heap.get? P = some (tabO ps)) (ht : TriplesOk ps.toList) (hnf : codeAmong pos ps.toList = none) (o2 : Own G K (rTab P pos :: mu) s) (htk : s.toks ≤ tk)
  (hx : Heap.ExtBut P s.heap h') (hge' : s.heap.objs.size ≤ c') (hP : h'.get? P = some (tabO (ps ++ #[rawInt pos.line,rawInt pos.col,.ref c']))) {oc : Obj} {vs' : Array Value} {cq : Str} {t : Tok} (g2 : h'.get? c' = some oc) (hd' : oc.data = .fields vs') (hq' : vs'[1]? = some (.str cq t)) :
  K c' = none ∧ Own G (kput K c' oc) (rTab P pos :: mu) { s with heap:=h',toks:=tk }:=by
 have o3 : Own G K (rObj P (tabO (ps ++ #[rawInt pos.line,rawInt pos.col,.ref c'])) :: mu) { s with heap:=h',toks:=tk } :=
  Own.rework (L:=[rTab P pos]) (L':=[rObj P (tabO (ps ++ #[rawInt pos.line,rawInt pos.col,.ref c']))]) (h':=h') (t:=tk) o2 rfl (fun b ob hb e=>hx b ob (fun q=>hb (by rw [q]; exact List.mem_cons_self)) e) (fun r hr=>by
   have hr:=List.mem_singleton.mp hr
   subst hr
   exact ⟨_,hP,rfl⟩) htk
 have hfr : K c' = none:=by
  cases e : K c' with
  | none=>rfl
  | some o=>exact absurd (o2.klt e) (Nat.not_lt.mpr hge')
 refine ⟨hfr,?_⟩
 have o4 : Own G (kput K c' oc) (rObj P (tabO (ps ++ #[rawInt pos.line,rawInt pos.col,.ref c'])) :: mu) { s with heap:=h',toks:=tk }:=by
  refine o3.kgrow (kput_le hfr) (fun b ob e=>?_) (fun r hr=>?_) ?_
  ·unfold kput at e
   split at e
   ·rename_i hb; subst hb; cases e; exact g2
   ·exact o3.k b ob e
  ·unfold kput
   rw [if_neg]
   ·exact (o3.off r hr).1
   ·rcases List.mem_cons.mp hr with rfl | hr
    ·exact Nat.ne_of_lt (Nat.lt_of_lt_of_le (Heap.lt_size eP) hge')
    ·exact Nat.ne_of_lt (Nat.lt_of_lt_of_le (o2.lt (List.mem_cons_of_mem _ hr)) hge')
  ·unfold kput
   rw [if_neg (Nat.ne_of_lt (Nat.lt_of_lt_of_le o2.slt hge'))]
   exact o3.kst.1
 refine o4.tellK rfl fun r hr=>?_
 rcases List.mem_cons.mp hr with rfl | hr
 ·refine ⟨_,List.mem_cons_self,rfl,fun o p=>?_⟩
  have p : o = _:=p
  subst p
  have hl : (ps ++ #[rawInt pos.line,rawInt pos.col,Value.ref c']).toList = ps.toList ++ [rawInt pos.line,rawInt pos.col,.ref c']:=by simp
  refine ⟨_,rfl,?_,.inr ⟨c',oc,vs',_,t,?_,kput_self ..,hd',hq'⟩⟩
  ·rw [hl]; exact TriplesOk_snoc _ _ _ _ ht
  ·rw [hl]; exact codeAmong_snoc _ ht hnf
 ·exact ⟨r,List.mem_cons_of_mem _ hr,rfl,fun _ p=>p⟩
theorem lam_code {s : Shared} {fl : Nat} {nm : Str} {bd : FuncBody} {Q : Value → Shared → Prop} (hC : CodeOk G c P) (hcode : env.code = .ref c) (o2 : Own G K (rTab P pos :: mu) s)
  (h : ∀ K' c' oc vs cq t s',KLe K K' → Own G K' (rTab P pos :: mu) s' → K' c' = some oc → oc.data = .fields vs → vs[1]? = some (.str cq t) → Q (.ref c') s') : wpAny G.M A (functionCode env pos fl nm qn params sc bd) Q E s:=by
 obtain ⟨o,vs,file,tf,flags,tg,inF,text,tt,⟨q1,q1'⟩,q2,q3,q4,q5,q6,q7,q8,q9,q10⟩:=hC.at'
 obtain ⟨oP,eP,ps,rfl,ht,hcs⟩:=o2.get (r:=rTab P pos) List.mem_cons_self
 have eP : s.heap.get? P = some (tabO ps):=eP
 have eC:=o2.k _ _ (o2.old _ _ q1 q1' q2)
 have hcP : c ≠ P:=by rw [← hC.tb]; exact q1
 have IC : s.heap.IsCode c P ps:=⟨o,vs,file,tf,flags,tg,inF,text,tt,tabO ps,eC,q4,q5,q6,q7,q8,q9,eP,rfl,ht,hcP⟩
 rcases hcs with hnf | ⟨c',oc,vs',cq,t,hf,hk',hd',hq'⟩
 ·refine wpAny_mono (wpAny_toks (wpAny_functionCodeX (E:=E) hcode IC ⟨⟨o,vs,eC,q3,q4,q10⟩,eP⟩ hnf (Q:=fun v s'=>s.toks ≤ s'.toks → Q v s')
   fun c' h' tk hx hge' hlt _ hrec htb _ htk=>?_)) (fun v s' ⟨htk,k⟩=>k htk) fun _ _ x=>x.2
  obtain ⟨c₂,oc,vs',t,e2,g2,hd',hq'⟩:=hrec
  cases e2
  obtain ⟨hfr,o5⟩:=lam_new eP ht hnf o2 htk hx hge' htb.2 g2 hd' hq'
  exact h _ _ _ _ _ _ _ (kput_le hfr) o5 (kput_self ..) hd' hq'
 ·exact wpAny_functionCode_hit hcode IC hf (h _ _ _ _ _ _ _ (.refl _) o2 hk' hd' hq')
theorem Ev.lam (hG : TopF G) (hB : BmOk G) (hC : CodeOk G c P) (hcode : env.code = .ref c) (hge : env.globals = mainGlobals) (hcap : ∀ nm ∈ freeNames sc.names,∃ c,env.cells.lookup nm = some c) (hne : (clOf env sc.names []).isEmpty = false)
  (hi : R[i]? = some (rTab P pos)) (hd : defaultsOf params env = ([],[])) (hkw : params.kwonlyargs = []) : Ev G n env (W ++ R) (.Lambda params body sc pos) (tLam (env.qual ++ "<lambda>") params body sc (clOf env sc.names [])) () (W ++ R):=by
 obtain ⟨mg,bm,ob,h1,h2,h3,h4,h5,h6,h7,h8,h9⟩:=hB.at'
 refine fun K nu A s hA hs=>?_
 show wpAny G.M A (do
  let (d,kd):=defaultsOf params env
  let dv ← evalAll d
  let kdv ← holding dv (evalAllOpt kd)
  makeFunction "<lambda>" (env.qual ++ "<lambda>") params (.expr body) sc env dv kdv [] pos pos.line) _ _ s
 rw [hd]
 refine wpAny_bind (wpAny_pure (wpAny_bind (wpAny_holding (wpAny_pure ?_))))
 rw [makeFunction_eq,hkw]
 simp only [List.zip_nil_left,List.filterMap_nil,List.isEmpty_nil,if_true,pure_bind]
 unfold makeTail
 rw [closure_eq hcap,hge]
 refine wpAny_bind (wpAny_pure ?_)
 rw [hne]
 simp only [Bool.false_eq_true,if_false]
 refine wpAny_bind (wpAny_newTextTuple ?_)
 have p:=split_R (W:=W) (nu:=nu) (r':=rTab P pos) hi
 refine wpAny_bind (lam_code hC hcode ((hs.push _).perm p.1) fun K1 c' oc vs cq t s1 hle1 o2 hk hd' hq'=>?_)
 refine fin_lam (qn:=env.qual ++ "<lambda>") hG o2 hk hd' hq' h1 h2 h3 h4 h5 h6 h7 h8 h9 fun K' v s' hle o6 hr=>?_
 exact ⟨K',_,(kput_le hs.fresh).trans (hle1.trans hle),o6.perm p.1.symm,rfl,hr⟩
theorem codeAny_exprB {e : Expr} {lenv : Env} {M : Model} {R : Result → Shared → Prop} {prog : Program} {w : World}
  (h : wpAny (model prog w) (A.deeper lenv) (eval e lenv) (fun v s'=>R (.ok (.ret v)) s') noE s) : codeAny (model prog w) A (.expr e lenv) R s:=by
 refine codeAny_of_tree ?_
 show wpAny _ (A.deeper lenv) (do point; ret (← (eval e lenv).onRaise (leaving lenv))) _ _ s
 exact wpAny_bind (wpAny_point (wpAny_bind (wpAny_onRaise (wpAny_mono h (fun v s' h'=>wpAny_pure h') fun _ _ h'=>h'.elim))))
theorem bindL_eq {qn : Str} {clos : List (Str × Addr)} {pm cd ct : Value} (args : Args) : bindArgs (lamFD qn params body sc clos pm cd ct) args = bindF qn params .none .none args:=rfl
theorem cal_lam {nm : Str} {f v : Value} (hG : TopF G) (cs : CSc sc [nm] [] fn gn) (hcap : CapOk env fn) (hlam : (tLam qn params body sc (clOf env sc.names [])).rel K f ()) (hco : sc.isCoroutine = false) (hgen : sc.isGenerator = false)
  (hbind : ∀ v,bindF qn params .none .none ⟨[v],[]⟩ = pure [(nm,v)]) (hr : T.rel K v x)
  (hb : ∀ lenv,FEnv lenv [nm] [] [] gn → Sees env lenv fn → Ev G n lenv (VS lenv.locals [nm] [some ⟨T,x⟩] [] [] ++ mu) body U y (VS lenv.locals [nm] [some ⟨T,x⟩] [] [] ++ mu)) : Vl G (n + 1) K mu (call f [v]) U y mu:=fun nu A s hA hs=>by
 obtain ⟨q,c,oc,vs,cq,t,pm,ct,rfl,hq,hc,hd,ht⟩:=hlam
 refine wpAny_call (codeAny_of_tree ?_)
 show wpAny _ A.in1 (callAny (.ref q) ⟨[v],[]⟩) _ _ s
 simp only [callAny]
 refine wpAny_bind (wpAny_load (hs.k _ _ hq) ?_)
 have hco' : (lamFD qn params body sc (clOf env sc.names []) pm (.ref c) ct).scope.isCoroutine = false:=hco
 have hgen' : (lamFD qn params body sc (clOf env sc.names []) pm (.ref c) ct).scope.isGenerator = false:=hgen
 simp only [lamO,callFunction,hco',hgen']
 refine wpAny_bind (m:=field (.ref c) 1) (wpAny_field (hs.k _ _ hc) hd ht (wpAny_bind (wpAny_pure ?_)))
 rw [bindL_eq,hbind]
 refine wpAny_bind (wpAny_pure ?_)
 show wpAny G.M A.in1 (do
  let env' ← newFunctionEnv sc mainGlobals (clOf env sc.names []) [(nm,v)] (cq ++ ".<locals>.") (some q) (.ref c) none builtinsNs
  enterFrame
  again (.expr body env')) _ _ _
 simp only [newFunctionEnv,Option.isSome_none,Bool.false_eq_true,if_false]
 refine wpAny_bind (wpAny_bind (wpAny_alloc ?_))
 have o2:=hs.pushOwned { cls:=.type "frame", data:=.dict #[] } (rFrame s.heap.objs.size [nm] (blank 1)) rfl ⟨fun _=>none,⟨#[],0,rfl,fun _ he=>by simp at he,fun _=>rfl⟩,fun i nm tv _ ht=>by
  unfold blank at ht
  rw [List.getElem?_replicate] at ht
  split at ht <;> simp at ht⟩
 generalize hC : s.heap.objs.size = C at o2 ⊢
 generalize hs2 : ({ s with heap:=s.heap.push { cls:=.type "frame", data:=.dict #[] } } : Shared) = s2 at o2 ⊢
 have hsz2 : s2.heap.objs.size = C + 1:=by rw [← hs2,← hC]; exact Heap.size_push ..
 refine wpAny_bind (wpAny_layCells _ (fun name kind cells=>by cases hkc : kind == NameKind.cell <;> simp) _ _ _ _ ?_)
 have o3:=own_cells sc.names s2 _ o2
 have hcn : cellNames sc.names = []:=cs.cel.symm
 rw [hcn] at o3
 have o3 : Own G K (rFrame C [nm] (blank 1) :: (mu ++ nu)) { s2 with heap:=pushCells s2.heap sc.names }:=o3
 rw [hsz2]
 generalize hs3 : ({ s2 with heap:=pushCells s2.heap sc.names } : Shared) = s3 at o3 ⊢
 try dsimp only
 generalize hce : ({ scope:=sc,locals:=C,globals:=mainGlobals,cells:=cellsFrom (C + 1) sc.names (clOf env sc.names []),qual:=cq ++ ".<locals>.", func:=some q,code:=.ref c,frame:=some C,builtins:=builtinsNs } : Env) = lenv
 have FE : FEnv lenv [nm] [] [] gn:=by
  refine ⟨?_,?_,?_,?_,?_,?_,?_,cs.lnd,?_⟩
  ·subst hce; exact cs.kind
  ·subst hce; rfl
  ·subst hce; rfl
  ·subst hce; exact fun nm hm=>cs.loc nm hm
  ·exact fun nm hm=>nomatch hm
  ·intro i nm c h1 h2; simp at h1
  ·subst hce; exact fun nm hm=>cs.gl nm hm
  ·intro nm hm
   refine cs.good nm ?_
   rcases List.mem_append.mp hm with h | h
   ·exact List.mem_append_left _ h
   ·rcases List.mem_append.mp h with h | h
    ·exact nomatch h
    ·exact List.mem_append_right _ (List.mem_append_right _ (List.mem_append_right _ h))
 have SE : Sees env lenv fn:=fun nm' hm=>by
  have hf : nm' ∈ freeNames sc.names:=cs.fre ▸ hm
  obtain ⟨c',hc'⟩:=hcap nm' hm
  have hlk:=lookup_of_mem cs.nd (mem_freeNames.mp hf)
  refine ⟨⟨c',hc',?_⟩,?_,?_,cs.good nm' (List.mem_append_right _ (List.mem_append_right _ (List.mem_append_left _ hm)))⟩
  ·subst hce
   show (cellsFrom (C + 1) sc.names (clOf env sc.names [])).lookup nm' = _
   rw [cellsFrom_notin _ _ _ _ (by rw [hcn]; exact fun h=>nomatch h),clOf_at _ _ _ cs.nd hf,hc']
   rfl
  ·subst hce; exact .inr hlk
  ·subst hce; exact cs.kind
 have hloc : lenv.locals = C:=by subst hce; rfl
 rw [List.forIn_cons]
 have o4 : Own G K (VS lenv.locals [nm] (blank 1) [] [] ++ mu ++ nu) s3:=by rw [hloc]; exact o3
 refine wpAny_bind (wpAny_bind (wpAny_bind (store_loc (ca:=[]) (ka:=[]) (rho:=blank 1) (i:=0) (rest:=mu) FE rfl (by decide) hr o4 fun s4 o5=>wpAny_pure ?_)))
 show wpAny G.M A.in1 (forIn ([] : List (Str × Value)) PUnit.unit _) _ _ s4
 rw [List.forIn_nil]
 refine wpAny_pure (wpAny_pure ?_)
 refine wpAny_bind (wpAny_enterFrame (o5.nolim hG) hA.depth (wpAny_pure ⟨rfl,?_⟩))
 refine codeAny_exprB (M:=G.M) ((hb lenv FE SE).use (hA.deeper lenv) o5 fun K6 v6 s6 h6 o6 r6=>?_)
 exact ⟨K6,mu,h6,o6.sub (by rw [List.append_assoc]; exact List.sublist_append_right _ _),rfl,r6⟩
end
noncomputable def dict0 : Obj:={ cls:=.type "dict", data:=.dict #[] }
noncomputable def tDict0 : Ty Unit:=⟨fun K v _=>∃ a,v = .ref a ∧ K a = some dict0 ∧ (a == sysModules) = false,fun hle ⟨a,e,k,q⟩=>⟨a,e,hle _ _ k,q⟩⟩
noncomputable def tTup1 {α : Type} (T : Ty α) : Ty α:=⟨fun K v x=>∃ a v1 n,v = .ref a ∧ K a = some (tupO [v1] n) ∧ T.rel K v1 x,fun hle ⟨a,v1,n,e,k,h⟩=>⟨a,v1,n,e,hle _ _ k,T.mono hle h⟩⟩
section
variable {G : Gl} {n : Nat} {env : Env} {mu mu₁ mu₂ mu₃ nu rest W R : List Res} {K : KH} {A : Around} {s : Shared} {E : Value → Shared → Prop} {α β γ : Type} {T : Ty α} {x : α} {U : Ty β} {y : β} {pos apos : Pos} {ln cn fn gn : List Str} {e o l r : Expr} {F : Flow → KH → List Res → Prop}
theorem Tri.peek (t : TopF G) {δ : Type} {q : Sem δ} {r : δ} {Q : KH → List Res → δ → Prop} (e : PySem.W.peek G.fr ⟨G.prog,G.w.params⟩ q = some r) (hq : Q K mu r) : Tri G n K mu q Q:=fun nu A s hA hs =>
 (Looks.of_peek (M:=G.M) (hs.fr_in t) e) A _ _ s (fun _ _ e=>e) ⟨K,mu,.refl K,hs,hq⟩
theorem dict0_of {knd : KeyKind G.prog G.w Str} {h : Heap} {a : Addr} (e : h.get? a = some dict0) : h.DictOf knd a []:=by
 have h1:=(Heap.dictOf_iff (knd:=knd)).mp (Heap.DictOf.new ({} : Heap))
 obtain ⟨o,e1,q⟩:=h1
 rw [Heap.get?_push_size _ rfl] at e1
 cases e1
 exact Heap.dictOf_iff.mpr ⟨_,e,q⟩
theorem tru_dict0 : Tru G tDict0 () false:=fun n K mu v ⟨a,e,hk,hq⟩ nu A s hA hs=>by
 subst e
 exact wpAny_truthy_dict (knd:=PySem.strKind G.prog G.w) (kvs:=[]) hq (dict0_of (hs.k _ _ hk)) (by simp) ⟨K,mu,.refl K,hs.toks _,rfl,rfl⟩
theorem cal_lenT1 : Cal G n (.builtin "len") [⟨tTup1 T,x⟩] mu tInt 1 mu:=fun K vs hv=>by
 obtain ⟨v,r,rfl,⟨a,v1,m,rfl,hk,hr1⟩,hr⟩:=All2.cons_right hv
 have:=hr.nil_right; subst this
 refine Tri.ofToks fun A s hA hkk=>len_tuple (items:=([v1] : List Value).toArray) (isTuple_of (hkk _ _ hk)) (by simp) ⟨⟨_,rfl⟩,s.toks + 1,rfl⟩
theorem Ev.idxT1 (hl : Ev G n env mu l (tTup1 T) x mu₁) (hr : Ev G n env mu₁ r tInt 0 mu₁)
  (hs : ∀ a u,subscripted r false (.ref a) (.int 0 u) = operate [.ref a,.int 0 u] (getItem (.ref a) (.int 0 u)):=by intro _ _; with_unfolding_all rfl) : Ev G n env mu (.Subscript l r pos) T x mu₁:=fun K nu A s hA hs' =>
 Subscript_ (hl.use hA hs' fun K1 v s1 h1 o1 r1=>hr.use hA o1 fun K2 w s2 h2 o2 r2=>by
  obtain ⟨a,v1,m,rfl,hk,ha⟩:=(tTup1 T).mono h2 r1
  obtain ⟨u,rfl⟩:=r2
  exact item_tupleT (l:=[v1]) (j:=0) ⟨_,o2.k _ _ hk,rfl,m,rfl⟩ (by decide) (by decide) rfl rfl (done (h1.trans h2) o2 ha) (hs a u))
theorem mth_dict0 {name : Str} {id : String} (slot : Slot "dict" name id) (ty : typeOf (.builtin id) = pure (.type "method_descriptor")) : Mth G tDict0 () name (.builtin id):=fun K mu v A s pl Q E ⟨a,e,hk,hq⟩ hs h=>by
 subst e
 exact getMethod_builtin (T:="dict") ⟨_,hs.k _ _ hk,rfl⟩ PySem.F.plainAttrs_dict slot ty (fun b hb=>by cases hb; exact ⟨_,hs.k _ _ hk,rfl⟩) h
theorem ExS.forItems0 {t : Expr} {body : List Stmt} (ho : Ev G n env mu o tDict0 () mu) (hF : ∀ K,F .next K mu) {pl : Sem Bool}
  (he : eval (.Call (.Attribute o "items" apos) [] [] pos) env = (do
   let ov ← eval o env
   standAt apos.atName
   let (f,first) ← holding [ov] (getMethod ov "items" pl)
   callWith pos f first (backTo pos (starEach [] env)) (backToKw pos (keywordEach [] env))):=by rfl)
  (hs : ∀ x,foldedSetIterable (.Call (.Attribute o "items" apos) [] [] pos) env x = pure x:=by intro _; rfl) {fpos : Pos} : ExS G n env mu (.For t (.Call (.Attribute o "items" apos) [] [] pos) body [] fpos) F:=by
 refine ExS.forQ (T:=tStr) (last:=[]) (keep:=[]) (J0:=mu) (fun ys=>ys = []) (fun _ _=>mu) (fun _ _=>True) (fun K=>?_) (fun _ _=>⟨rfl,trivial⟩) (fun xs hx k x hk=>by subst hx; simp at hk) (fun xs hx _ K=>by rw [List.append_nil]; exact hF K) hs
 intro nu A s hA hs
 refine methodCall_KW (ho.use hA hs fun K1 v s1 h1 o1 r1=>mth_dict0 (G:=G) PySem.F.slot_dict_items PySem.F.type_dict_items K1 _ v A s1 pl _ _ r1 o1 (Calls.callWith_builtin rfl ?_)) he
 obtain ⟨a,rfl,hk,hq⟩:=r1
 refine Tri.use (EvA.args' (f:=.builtin "dict.items") (EvA.nil (G:=G) (n:=n) (env:=env) (mu:=mu) (pos:=pos)) rfl K1) hA o1 fun K2 mu2 b s2 h2 o2 ⟨e2,vs,e3,r2⟩=>?_
 subst e2 e3
 have:=r2.nil_right; subst this
 have hD:=dict0_of (knd:=PySem.strKind G.prog G.w) (o2.k _ _ (h2 _ _ hk))
 refine call_meetsIn PySem.F.slot_dict_items hD.typeIs PySem.F.entry_dict_items (PySem.F.args_dict_items_1 _) (meets_dict_items (PySem.strKind G.prog G.w) a hq) ⟨⟨[],hD⟩,?_⟩
 have o3:=o2.push { cls:=.type "dict_items", data:=.fields #[.ref a] }
 refine ⟨_,mu2,h1.trans (h2.trans (kput_le o2.fresh)),o3,?_⟩
 intro nu3 A3 s3 hA3 hs3
 have ev:=hs3.k _ _ (kput_self ..)
 have ed:=hs3.k _ _ (kput_le (o:={ cls:=.type "dict_items", data:=.fields #[.ref a] }) o2.fresh _ _ (h2 _ _ hk))
 have hAt : s3.heap.DictAt (PySem.strKind G.prog G.w) a [] 0:=⟨dict0,#[],ed,⟨rfl,rfl,rfl⟩,rfl,fun e he=>by simp at he,.nil,.nil⟩
 refine wpAny_pyIter_items (knd:=PySem.strKind G.prog G.w) (kvs:=[]) ⟨_,ev,rfl,rfl⟩ hAt ?_
 have o4:=hs3.pushOwned { cls:=.type "dict_itemiterator", data:=.fields #[.none,.bool false,.ref a,.int 0 0,.int (([] : List (Str × Value)).length) 0,.int (0 : Nat) 0,.none,.none] } (rObj s3.heap.objs.size { cls:=.type "dict_itemiterator", data:=.fields #[.none,.bool false,.ref a,.int 0 0,.int (([] : List (Str × Value)).length) 0,.int (0 : Nat) 0,.none,.none] }) rfl rfl
 refine ⟨_,[rObj s3.heap.objs.size _] ++ mu2,.refl _,o4,s3.heap.objs.size,fun _=>[rObj s3.heap.objs.size { cls:=.type "dict_itemiterator", data:=.fields #[.none,.bool false,.ref a,.int 0 0,.int (([] : List (Str × Value)).length) 0,.int (0 : Nat) 0,.none,.none] }],[],rfl,rfl,rfl,⟨fun n K' k x hle hx=>by simp at hx,fun n K' hle=>?_⟩,fun _=>Wk.sub (List.nil_sublist _)⟩
 intro nu5 A5 s5 hA5 hs5
 obtain ⟨ob,g5,p5⟩:=hs5.get (r:=rObj s3.heap.objs.size { cls:=.type "dict_itemiterator", data:=.fields #[.none,.bool false,.ref a,.int 0 0,.int (([] : List (Str × Value)).length) 0,.int (0 : Nat) 0,.none,.none] }) List.mem_cons_self
 have p5 : ob = _:=p5
 subst p5
 have ed5:=hs5.k _ _ (hle _ _ (kput_le (o:={ cls:=.type "dict_items", data:=.fields #[.ref a] }) o2.fresh _ _ (h2 _ _ hk)))
 have hAt5 : s5.heap.DictAt (PySem.strKind G.prog G.w) a [] 0:=⟨dict0,#[],ed5,⟨rfl,rfl,rfl⟩,rfl,fun e he=>by simp at he,.nil,.nil⟩
 refine wpAny_pyNext_items_end (knd:=PySem.strKind G.prog G.w) (kvs:=[]) (i:=0) hA5.1 g5 hAt5 rfl fun h' hx=>?_
 exact ⟨K',[],.refl _,Own.drop (s':={ s5 with heap:=h' }) hs5 hx rfl rfl,rfl,rfl⟩
end
noncomputable def fnFD (nm qn : Str) (st : Option Stmt) (pm cd df kd : Value) : FuncData:={ name:=nm,qualname:=qn,params:=defParams st,body:=.stmts (defBody st),scope:=defScope st,globals:=mainGlobals,closure:=[],defaults:=df,kwdefaults:=kd,doc:=.none,pyModule:=pm,annotations:=none,code:=cd,closureTuple:=.none,builtins:=builtinsNs }
structure TopOk (G : Gl) : Prop where
 t : TopF G
 fr : G.fr = KF G.w.params
 pr : G.prog = PW
 gl : ∃ mg mb,G.H.Ns mainGlobals mg ∧ G.H.Ns builtinsNs mb ∧ ∀ x : Str,x ≠ "__name__" → mb x = bootBuiltins x
 bm : BmOk G
theorem TopOk.at {G : Gl} (h : TopOk G) {a : Addr} {o : Obj} (e : (KF G.w.params).lookup a = some o) : (a ≠ G.TB ∧ a ≠ cStatics) ∧ G.H.get? a = some o:=h.t.frOk a o (by rw [h.fr]; exact e)
theorem TopOk.in {G : Gl} (h : TopOk G) : (KF G.w.params).In G.H:=fun a o e=>(h.at e).2
theorem gvM {G : Gl} (h : TopOk G) {nm : Str} {v : Value} (e : nsIn (KF G.w.params) mainGlobals nm = some (some v)) : GV G nm v:=by
 obtain ⟨mg,mb,h1,h2,h3⟩:=h.gl
 exact ⟨h.t,.inl ⟨mg,h1,mg_of h.in h1 e⟩⟩
theorem gvB {G : Gl} (h : TopOk G) {nm : Str} {v : Value} (e : nsIn (KF G.w.params) mainGlobals nm = some none) (hv : bootBuiltins nm = some v) (hn : nm ≠ "__name__") : GV G nm v:=by
 obtain ⟨mg,mb,h1,h2,h3⟩:=h.gl
 exact ⟨h.t,.inr ⟨mg,mb,h1,mg_none_of h.in h1 e,h2,(h3 nm hn).trans hv⟩⟩
theorem fnOk {G : Gl} (hG : TopOk G) {f c : Addr} {nm qn : Str} {st : Option Stmt} {pm df kd : Value} {oc : Obj} {t : Tok} {ln cn gn : List Str} (hl : (KF G.w.params).lookup f = some (fnO nm qn st pm (.ref c) df kd)) (hc : (KF G.w.params).lookup c = some oc) (hq : ∃ vs,oc.data = .fields vs ∧ vs[1]? = some (.str qn t))
  (cs : cscOk (defScope st) ln cn [] gn = true) (co : ((defScope st).isCoroutine || (defScope st).isGenerator) = false) : FnOk G f (fnFD nm qn st pm (.ref c) df kd) (defBody st) ln cn gn :=
 ⟨hG.t,(hG.at hl).1,⟨_,(hG.at hl).2,rfl⟩,rfl,let ⟨vs,hd,hq⟩:=hq; ⟨c,oc,vs,t,rfl,(hG.at hc).1,(hG.at hc).2,hd,hq⟩,rfl,rfl,rfl,csc_of cs,(Bool.or_eq_false_iff.mp co).1,(Bool.or_eq_false_iff.mp co).2⟩
section
variable {G : Gl}
theorem g_Headers (hG : TopOk G) : GV G "Headers" (.ref 182):=gvM hG (by kernel_rfl)
theorem g_Ignore (hG : TopOk G) : GV G "_Ignore" (.ref 265):=gvM hG (by kernel_rfl)
theorem g_c_path (hG : TopOk G) : GV G "_c_path" (.ref 214):=gvM hG (by kernel_rfl)
theorem g_fspath (hG : TopOk G) : GV G "_fspath" (.ref 200):=gvM hG (by kernel_rfl)
theorem g_kind (hG : TopOk G) : GV G "_kind" (.ref 193):=gvM hG (by kernel_rfl)
theorem g_law_ahead (hG : TopOk G) : GV G "_law_ahead" (.ref 296):=gvM hG (by kernel_rfl)
theorem g_law_boxed (hG : TopOk G) : GV G "_law_boxed" (.ref 308):=gvM hG (by kernel_rfl)
theorem g_law_call (hG : TopOk G) : GV G "_law_call" (.ref 281):=gvM hG (by kernel_rfl)
theorem g_law_chains (hG : TopOk G) : GV G "_law_chains" (.ref 291):=gvM hG (by kernel_rfl)
theorem g_law_lay (hG : TopOk G) : GV G "_law_lay" (.ref 303):=gvM hG (by kernel_rfl)
theorem g_law_steps (hG : TopOk G) : GV G "_law_steps" (.ref 286):=gvM hG (by kernel_rfl)
theorem g_modname (hG : TopOk G) : GV G "_modname" (.ref 276):=gvM hG (by kernel_rfl)
theorem g_name_disallowed_re (hG : TopOk G) : GV G "_name_disallowed_re" (.ref 48):=gvM hG (by kernel_rfl)
theorem g_normpath0 (hG : TopOk G) : GV G "_normpath" (.ref 235):=gvM hG (by kernel_rfl)
theorem g_splitroot (hG : TopOk G) : GV G "_splitroot" (.ref 221):=gvM hG (by kernel_rfl)
theorem g_value_disallowed_re (hG : TopOk G) : GV G "_value_disallowed_re" (.ref 53):=gvM hG (by kernel_rfl)
theorem g_basename (hG : TopOk G) : GV G "basename" (.ref 228):=gvM hG (by kernel_rfl)
theorem g_len (hG : TopOk G) : GV G "len" (.builtin "len"):=gvB hG (by kernel_rfl) (by kernel_rfl) (by decide)
theorem g_list (hG : TopOk G) : GV G "list" (.type "list"):=gvB hG (by kernel_rfl) (by kernel_rfl) (by decide)
theorem g_max (hG : TopOk G) : GV G "max" (.builtin "max"):=gvB hG (by kernel_rfl) (by kernel_rfl) (by decide)
theorem g_normpath (hG : TopOk G) : GV G "normpath" (.ref 242):=gvM hG (by kernel_rfl)
theorem g_range (hG : TopOk G) : GV G "range" (.type "range"):=gvB hG (by kernel_rfl) (by kernel_rfl) (by decide)
theorem g_sep (hG : TopOk G) : GV G "sep" (.str "/" 553):=gvM hG (by kernel_rfl)
theorem g_set (hG : TopOk G) : GV G "set" (.type "set"):=gvB hG (by kernel_rfl) (by kernel_rfl) (by decide)
theorem g_sorted (hG : TopOk G) : GV G "sorted" (.builtin "sorted"):=gvB hG (by kernel_rfl) (by kernel_rfl) (by decide)
theorem g_splitext (hG : TopOk G) : GV G "splitext" (.ref 207):=gvM hG (by kernel_rfl)
theorem g_str (hG : TopOk G) : GV G "str" (.type "str"):=gvB hG (by kernel_rfl) (by kernel_rfl) (by decide)
theorem g_type (hG : TopOk G) : GV G "type" (.type "type"):=gvB hG (by kernel_rfl) (by kernel_rfl) (by decide)
theorem g_zip (hG : TopOk G) : GV G "zip" (.type "zip"):=gvB hG (by kernel_rfl) (by kernel_rfl) (by decide)
noncomputable def fd_Headers_init : FuncData:=fnFD "__init__" "Headers.__init__" (clsSt 7 0) (.str "cpy313.wsgiref.headers" 289) (.ref 75) (.ref 69) (.none)
theorem ok_Headers_init (hG : TopOk G) : FnOk G 76 fd_Headers_init (defBody (clsSt 7 0)) ["self", "headers", "k", "v"] [] ["type", "list", "TypeError"]:=fnOk hG (oc:=ob75 G.w.params) (t:=408) (by kernel_rfl) (by kernel_rfl) ⟨_,rfl,rfl⟩ (by decide +kernel) (by decide +kernel)
noncomputable def fd_Headers__convert_string_type : FuncData:=fnFD "_convert_string_type" "Headers._convert_string_type" (clsSt 7 1) (.str "cpy313.wsgiref.headers" 289) (.ref 82) (.none) (.none)
theorem ok_Headers__convert_string_type (hG : TopOk G) : FnOk G 83 fd_Headers__convert_string_type (defBody (clsSt 7 1)) ["self", "value", "name", "regex"] [] ["type", "str", "_name_disallowed_re", "_value_disallowed_re", "ValueError", "AssertionError", "repr"]:=fnOk hG (oc:=ob82 G.w.params) (t:=418) (by kernel_rfl) (by kernel_rfl) ⟨_,rfl,rfl⟩ (by decide +kernel) (by decide +kernel)
noncomputable def fd_Headers_get_all : FuncData:=fnFD "get_all" "Headers.get_all" (clsSt 7 7) (.str "cpy313.wsgiref.headers" 289) (.ref 120) (.none) (.none)
theorem ok_Headers_get_all (hG : TopOk G) : FnOk G 121 fd_Headers_get_all (defBody (clsSt 7 7)) ["self"] ["name"] []:=fnOk hG (oc:=ob120 G.w.params) (t:=466) (by kernel_rfl) (by kernel_rfl) ⟨_,rfl,rfl⟩ (by decide +kernel) (by decide +kernel)
noncomputable def fd_Headers_get : FuncData:=fnFD "get" "Headers.get" (clsSt 7 8) (.str "cpy313.wsgiref.headers" 289) (.ref 128) (.ref 122) (.none)
theorem ok_Headers_get (hG : TopOk G) : FnOk G 129 fd_Headers_get (defBody (clsSt 7 8)) ["self", "name", "default", "k", "v"] [] []:=fnOk hG (oc:=ob128 G.w.params) (t:=472) (by kernel_rfl) (by kernel_rfl) ⟨_,rfl,rfl⟩ (by decide +kernel) (by decide +kernel)
noncomputable def fd_Headers_keys : FuncData:=fnFD "keys" "Headers.keys" (clsSt 7 9) (.str "cpy313.wsgiref.headers" 289) (.ref 133) (.none) (.none)
theorem ok_Headers_keys (hG : TopOk G) : FnOk G 134 fd_Headers_keys (defBody (clsSt 7 9)) ["self"] [] []:=fnOk hG (oc:=ob133 G.w.params) (t:=483) (by kernel_rfl) (by kernel_rfl) ⟨_,rfl,rfl⟩ (by decide +kernel) (by decide +kernel)
noncomputable def fd_Headers_values : FuncData:=fnFD "values" "Headers.values" (clsSt 7 10) (.str "cpy313.wsgiref.headers" 289) (.ref 138) (.none) (.none)
theorem ok_Headers_values (hG : TopOk G) : FnOk G 139 fd_Headers_values (defBody (clsSt 7 10)) ["self"] [] []:=fnOk hG (oc:=ob138 G.w.params) (t:=489) (by kernel_rfl) (by kernel_rfl) ⟨_,rfl,rfl⟩ (by decide +kernel) (by decide +kernel)
noncomputable def fd_Headers_items : FuncData:=fnFD "items" "Headers.items" (clsSt 7 11) (.str "cpy313.wsgiref.headers" 289) (.ref 145) (.none) (.none)
theorem ok_Headers_items (hG : TopOk G) : FnOk G 146 fd_Headers_items (defBody (clsSt 7 11)) ["self"] [] []:=fnOk hG (oc:=ob145 G.w.params) (t:=495) (by kernel_rfl) (by kernel_rfl) ⟨_,rfl,rfl⟩ (by decide +kernel) (by decide +kernel)
noncomputable def fd_Headers_setdefault : FuncData:=fnFD "setdefault" "Headers.setdefault" (clsSt 7 15) (.str "cpy313.wsgiref.headers" 289) (.ref 171) (.none) (.none)
theorem ok_Headers_setdefault (hG : TopOk G) : FnOk G 172 fd_Headers_setdefault (defBody (clsSt 7 15)) ["self", "name", "value", "result"] [] []:=fnOk hG (oc:=ob171 G.w.params) (t:=522) (by kernel_rfl) (by kernel_rfl) ⟨_,rfl,rfl⟩ (by decide +kernel) (by decide +kernel)
noncomputable def fd_Headers_add_header : FuncData:=fnFD "add_header" "Headers.add_header" (clsSt 7 16) (.str "cpy313.wsgiref.headers" 289) (.ref 178) (.none) (.none)
theorem ok_Headers_add_header (hG : TopOk G) : FnOk G 179 fd_Headers_add_header (defBody (clsSt 7 16)) ["self", "_name", "_value", "_params", "parts", "k", "v"] [] ["_formatparam"]:=fnOk hG (oc:=ob178 G.w.params) (t:=532) (by kernel_rfl) (by kernel_rfl) ⟨_,rfl,rfl⟩ (by decide +kernel) (by decide +kernel)
noncomputable def fd_kind : FuncData:=fnFD "_kind" "_kind" (topSt 10) (.str "os.path" 555) (.ref 192) (.none) (.none)
theorem ok_kind (hG : TopOk G) : FnOk G 193 fd_kind (defBody (topSt 10)) ["name", "x", "t"] [] ["type", "str", "bool", "int", "float", "list", "tuple", "dict", "set", "_wall"]:=fnOk hG (oc:=ob192 G.w.params) (t:=558) (by kernel_rfl) (by kernel_rfl) ⟨_,rfl,rfl⟩ (by decide +kernel) (by decide +kernel)
noncomputable def fd_fspath : FuncData:=fnFD "_fspath" "_fspath" (topSt 11) (.str "os.path" 555) (.ref 199) (.none) (.none)
theorem ok_fspath (hG : TopOk G) : FnOk G 200 fd_fspath (defBody (topSt 11)) ["name", "x", "k"] [] ["_kind", "TypeError"]:=fnOk hG (oc:=ob199 G.w.params) (t:=567) (by kernel_rfl) (by kernel_rfl) ⟨_,rfl,rfl⟩ (by decide +kernel) (by decide +kernel)
noncomputable def fd_splitext : FuncData:=fnFD "splitext" "splitext" (topSt 12) (.str "os.path" 555) (.ref 206) (.none) (.none)
theorem ok_splitext (hG : TopOk G) : FnOk G 207 fd_splitext (defBody (topSt 12)) ["p", "sep", "extsep", "sepIndex", "dotIndex", "filenameIndex"] [] ["_fspath"]:=fnOk hG (oc:=ob206 G.w.params) (t:=576) (by kernel_rfl) (by kernel_rfl) ⟨_,rfl,rfl⟩ (by decide +kernel) (by decide +kernel)
noncomputable def fd_c_path : FuncData:=fnFD "_c_path" "_c_path" (topSt 13) (.str "os.path" 555) (.ref 213) (.none) (.none)
theorem ok_c_path (hG : TopOk G) : FnOk G 214 fd_c_path (defBody (topSt 13)) ["name", "cname", "argname", "args", "kwargs", "x", "k"] [] ["len", "_wall", "_kind", "TypeError"]:=fnOk hG (oc:=ob213 G.w.params) (t:=588) (by kernel_rfl) (by kernel_rfl) ⟨_,rfl,rfl⟩ (by decide +kernel) (by decide +kernel)
noncomputable def fd_splitroot : FuncData:=fnFD "_splitroot" "_splitroot" (topSt 14) (.str "os.path" 555) (.ref 220) (.none) (.none)
theorem ok_splitroot (hG : TopOk G) : FnOk G 221 fd_splitroot (defBody (topSt 14)) ["p", "sep", "empty"] [] []:=fnOk hG (oc:=ob220 G.w.params) (t:=601) (by kernel_rfl) (by kernel_rfl) ⟨_,rfl,rfl⟩ (by decide +kernel) (by decide +kernel)
noncomputable def fd_basename : FuncData:=fnFD "basename" "basename" (topSt 15) (.str "os.path" 555) (.ref 227) (.none) (.none)
theorem ok_basename (hG : TopOk G) : FnOk G 228 fd_basename (defBody (topSt 15)) ["p", "i"] [] ["_fspath"]:=fnOk hG (oc:=ob227 G.w.params) (t:=610) (by kernel_rfl) (by kernel_rfl) ⟨_,rfl,rfl⟩ (by decide +kernel) (by decide +kernel)
noncomputable def fd_normpath0 : FuncData:=fnFD "_normpath" "_normpath" (topSt 16) (.str "os.path" 555) (.ref 234) (.none) (.none)
theorem ok_normpath0 (hG : TopOk G) : FnOk G 235 fd_normpath0 (defBody (topSt 16)) ["path", "sep", "dot", "dotdot", "_", "initial_slashes", "comps", "new_comps", "comp"] [] ["_splitroot"]:=fnOk hG (oc:=ob234 G.w.params) (t:=618) (by kernel_rfl) (by kernel_rfl) ⟨_,rfl,rfl⟩ (by decide +kernel) (by decide +kernel)
noncomputable def fd_normpath : FuncData:=fnFD "normpath" "normpath" (topSt 17) (.str "os.path" 555) (.ref 241) (.none) (.none)
theorem ok_normpath (hG : TopOk G) : FnOk G 242 fd_normpath (defBody (topSt 17)) ["args", "kwargs"] [] ["_normpath", "_c_path"]:=fnOk hG (oc:=ob241 G.w.params) (t:=633) (by kernel_rfl) (by kernel_rfl) ⟨_,rfl,rfl⟩ (by decide +kernel) (by decide +kernel)
noncomputable def fd_Ignore_init : FuncData:=fnFD "__init__" "_Ignore.__init__" (clsSt 19 0) (.str "cpy313.trace" 640) (.ref 254) (.ref 250) (.none)
theorem ok_Ignore_init (hG : TopOk G) : FnOk G 255 fd_Ignore_init (defBody (clsSt 19 0)) ["self", "modules", "dirs"] [] ["set"]:=fnOk hG (oc:=ob254 G.w.params) (t:=655) (by kernel_rfl) (by kernel_rfl) ⟨_,rfl,rfl⟩ (by decide +kernel) (by decide +kernel)
noncomputable def fd_Ignore_names : FuncData:=fnFD "names" "_Ignore.names" (clsSt 19 1) (.str "cpy313.trace" 640) (.ref 261) (.none) (.none)
theorem ok_Ignore_names (hG : TopOk G) : FnOk G 262 fd_Ignore_names (defBody (clsSt 19 1)) ["self", "filename", "modulename", "mod", "d"] [] ["sep"]:=fnOk hG (oc:=ob261 G.w.params) (t:=661) (by kernel_rfl) (by kernel_rfl) ⟨_,rfl,rfl⟩ (by decide +kernel) (by decide +kernel)
noncomputable def fd_modname : FuncData:=fnFD "_modname" "_modname" (topSt 20) (.str "cpy313.trace" 640) (.ref 275) (.none) (.none)
theorem ok_modname (hG : TopOk G) : FnOk G 276 fd_modname (defBody (topSt 20)) ["path", "base", "filename", "ext"] [] ["basename", "splitext"]:=fnOk hG (oc:=ob275 G.w.params) (t:=683) (by kernel_rfl) (by kernel_rfl) ⟨_,rfl,rfl⟩ (by decide +kernel) (by decide +kernel)
noncomputable def fd_law_call : FuncData:=fnFD "_law_call" "_law_call" (topSt 22) (.str "law_pu0049_02" 692) (.ref 280) (.none) (.none)
theorem ok_law_call (hG : TopOk G) : FnOk G 281 fd_law_call (defBody (topSt 22)) ["place"] ["mark"] ["range"]:=fnOk hG (oc:=ob280 G.w.params) (t:=695) (by kernel_rfl) (by kernel_rfl) ⟨_,rfl,rfl⟩ (by decide +kernel) (by decide +kernel)
noncomputable def fd_law_steps : FuncData:=fnFD "_law_steps" "_law_steps" (topSt 23) (.str "law_pu0049_02" 692) (.ref 285) (.none) (.none)
theorem ok_law_steps (hG : TopOk G) : FnOk G 286 fd_law_steps (defBody (topSt 23)) ["steps"] ["row"] ["range"]:=fnOk hG (oc:=ob285 G.w.params) (t:=701) (by kernel_rfl) (by kernel_rfl) ⟨_,rfl,rfl⟩ (by decide +kernel) (by decide +kernel)
noncomputable def fd_law_chains : FuncData:=fnFD "_law_chains" "_law_chains" (topSt 24) (.str "law_pu0049_02" 692) (.ref 290) (.none) (.none)
theorem ok_law_chains (hG : TopOk G) : FnOk G 291 fd_law_chains (defBody (topSt 24)) ["steps", "turn"] ["found", "shut", "come", "over"] ["range"]:=fnOk hG (oc:=ob290 G.w.params) (t:=707) (by kernel_rfl) (by kernel_rfl) ⟨_,rfl,rfl⟩ (by decide +kernel) (by decide +kernel)
noncomputable def fd_law_ahead : FuncData:=fnFD "_law_ahead" "_law_ahead" (topSt 25) (.str "law_pu0049_02" 692) (.ref 295) (.none) (.none)
theorem ok_law_ahead (hG : TopOk G) : FnOk G 296 fd_law_ahead (defBody (topSt 25)) ["steps", "turn"] ["maker", "come"] ["range"]:=fnOk hG (oc:=ob295 G.w.params) (t:=713) (by kernel_rfl) (by kernel_rfl) ⟨_,rfl,rfl⟩ (by decide +kernel) (by decide +kernel)
noncomputable def fd_law_lay : FuncData:=fnFD "_law_lay" "_law_lay" (topSt 26) (.str "law_pu0049_02" 692) (.ref 302) (.none) (.none)
theorem ok_law_lay (hG : TopOk G) : FnOk G 303 fd_law_lay (defBody (topSt 26)) ["live", "heads", "names", "maker", "place", "spots", "k", "spot", "p"] [] ["range", "_law_call"]:=fnOk hG (oc:=ob302 G.w.params) (t:=719) (by kernel_rfl) (by kernel_rfl) ⟨_,rfl,rfl⟩ (by decide +kernel) (by decide +kernel)
noncomputable def fd_law_boxed : FuncData:=fnFD "_law_boxed" "_law_boxed" (topSt 27) (.str "law_pu0049_02" 692) (.ref 307) (.none) (.none)
theorem ok_law_boxed (hG : TopOk G) : FnOk G 308 fd_law_boxed (defBody (topSt 27)) ["last", "steps", "boxes", "outs", "fine", "out", "name", "row", "one", "turn", "empty"] ["live", "names", "p", "taken"] ["range", "Headers", "_law_call", "_modname", "sorted"]:=fnOk hG (oc:=ob307 G.w.params) (t:=734) (by kernel_rfl) (by kernel_rfl) ⟨_,rfl,rfl⟩ (by decide +kernel) (by decide +kernel)
noncomputable def fd_law : FuncData:=fnFD "law" "law" (topSt 28) (.str "law_pu0049_02" 692) (.ref 312) (.none) (.none)
theorem ok_law (hG : TopOk G) : FnOk G 313 fd_law (defBody (topSt 28)) nL nC nG:=fnOk hG (oc:=ob312 G.w.params) (t:=740) (by kernel_rfl) (by kernel_rfl) ⟨_,rfl,rfl⟩ (by decide +kernel) (by decide +kernel)
end
theorem intRange_len (a b : Int) : (intRange a b).length = (b - a).toNat:=by simp [intRange]
theorem mem_intRange {a b x : Int} : x ∈ intRange a b ↔ a ≤ x ∧ x < b:=by
 unfold intRange
 rw [List.mem_map]
 constructor
 ·rintro ⟨i,hi,rfl⟩
  have:=List.mem_range.mp hi
  lia
 ·intro ⟨h1,h2⟩
  exact ⟨(x - a).toNat,List.mem_range.mpr (by lia),by lia⟩
theorem EqTy.up {α : Type} [DecidableEq α] {T : Ty α} {d d' : Nat} (h : EqTy T d) (hd : d ≤ d') : EqTy T d':=fun K s A v w x y hk hu hx hy=>h K s A v w x y hk (by lia) hx hy
theorem eqTy_pair_ {α β : Type} [DecidableEq α] [DecidableEq β] {T : Ty α} {U : Ty β} {d1 d2 : Nat} (hT : EqTy T d1) (hU : EqTy U d2) (dT : Det T) (dU : Det U) : EqTy (tPair T U) (d1 + d2 + 1) :=
 eqTy_pair (hT.up (Nat.le_add_right ..)) (hU.up (Nat.le_add_left ..)) dT dU
section
variable {G : Gl} {n : Nat} {env cenv : Env} {mu mu₁ mu₂ mu₃ nu rest W R : List Res} {K : KH} {A : Around} {s : Shared} {E : Value → Shared → Prop} {α β γ : Type} {T : Ty α} {x y : α} {U : Ty β} {pos p apos : Pos} {ln cn fn gn : List Str} {e o l r : Expr} {xs : List α} {es : List Expr} {ts : List TV} {ca : List Addr} {nm id : Str} {c : Addr} {i : Nat} {f : Addr} {fd : FuncData} {body : List Stmt}
theorem Prt.none : Prt G n env mu none none:=trivial
theorem Prt.some {i : Int} (h : Ev G n env mu e tInt i mu) : Prt G n env mu (some e) (some i):=h
theorem CapOk.consF (F : FEnv env ln cn ca gn) {i : Nat} (h1 : cn[i]? = some nm) (h2 : ca[i]? = some c) (t : CapOk env fn) : CapOk env (nm :: fn):=fun q hq=>by
 rcases List.mem_cons.mp hq with rfl | hq
 ·exact ⟨c,F.cells i _ c h1 h2⟩
 ·exact t q hq
theorem CapOk.consS {fn' : List Str} (S : Sees env cenv fn') {i : Nat} (hi : fn'[i]? = some nm) (t : CapOk cenv fn) : CapOk cenv (nm :: fn):=fun q hq=>by
 rcases List.mem_cons.mp hq with rfl | hq
 ·obtain ⟨⟨c,_,h⟩,_⟩:=S _ (List.mem_of_getElem? hi); exact ⟨c,h⟩
 ·exact t q hq
theorem Ev.ite {t a b : Expr} {c : Bool} (h : Cond G n env mu t c mu₁) (ha : c = true → Ev G n env mu₁ a T x mu₂) (hb : c = false → Ev G n env mu₁ b T y mu₂) : Ev G n env mu (.IfExp t a b pos) T (if c = true then x else y) mu₂ :=
 Cond.ifExp h (fun hc=>(ha hc).conv (by rw [if_pos hc])) (fun hc=>(hb hc).conv (by rw [if_neg (by rw [hc]; decide)]))
theorem Ev.callU {fe : Expr} (hf : Ev G n env mu fe tVal (.ref f) mu₁) (ha : EvA G n env mu₁ pos (e :: es) ts mu₂) (ok : FnOk G f fd body ln cn gn) (hc : Cal G n (.ref f) ts mu₂ T x mu₃)
  (hst : starEach (e :: es) env = (false,eval e env) :: starEach es env:=by rfl)
  (hn : eval (.Call fe (e :: es) [] pos) env = (do callWith pos (← eval fe env) [] (backTo pos (starEach (e :: es) env)) (backToKw pos (keywordEach [] env))):=by rfl) : Ev G n env mu (.Call fe (e :: es) [] pos) T x mu₃:=by
 obtain ⟨o,h1,h2⟩:=ok.at'
 exact Ev.callF (o:=o) (fd:=fd) hf ha ⟨ok.ne,h1,h2⟩ hc hst hn
theorem Ev.toLI {a : Addr} {i : Nat} (h : Ev G n env mu e tVal (.ref a) (W ++ R)) (hi : R[i]? = some (rList a T xs)) : EvL G n env mu e T xs (W ++ R):=h.toLO (List.mem_append_right _ (List.mem_of_getElem? hi))
end
theorem ex0 {l : List Addr} (h : l.length = 0) : l = []:=List.eq_nil_of_length_eq_zero h
theorem ex1 {l : List Addr} (h : l.length = 1) : ∃ c0,l = [c0]:=match l,h with
 | [c0],_=>⟨_,rfl⟩
theorem ex2 {l : List Addr} (h : l.length = 2) : ∃ c0 c1,l = [c0,c1]:=match l,h with
 | [c0,c1],_=>⟨_,_,rfl⟩
theorem ex4 {l : List Addr} (h : l.length = 4) : ∃ c0 c1 c2 c3,l = [c0,c1,c2,c3]:=match l,h with
 | [c0,c1,c2,c3],_=>⟨_,_,_,_,rfl⟩
theorem listD {α : Type} {l : List α} {n : Nat} (d : α) (h : l.length = n) : (List.range n).map (fun i=>l.getD i d) = l:=by
 subst h
 refine List.ext_getElem (by simp) fun i h1 h2=>?_
 simp [List.getElem?_eq_getElem h2]
theorem allV {α : Type} {l : List α} {n : Nat} {P : List α → Prop} (d : α) (h : l.length = n) (k : ∀ f : Nat → α,P ((List.range n).map f)) : P l:=listD d h ▸ k _
theorem sum_len_le {b : Nat} : ∀ (l : List Str),(∀ a ∈ l,a.length ≤ b) → (l.map (·.length)).sum ≤ l.length * b
 | [],_=>by simp
 | a :: l,h=>by
  have h1:=h a List.mem_cons_self
  have h2:=sum_len_le l fun a ha=>h a (List.mem_cons_of_mem _ ha)
  rw [List.map_cons,List.sum_cons,List.length_cons,Nat.succ_mul]
  lia
theorem two_pow_le {x : Int} {k : Nat} (h : x ≤ k) : (2 : Int) ^ x.toNat ≤ 2 ^ k:=by
 have h1 : (2 : Nat) ^ x.toNat ≤ 2 ^ k:=Nat.pow_le_pow_right (by decide) (by lia)
 have h2 : ((2 ^ x.toNat : Nat) : Int) ≤ ((2 ^ k : Nat) : Int):=by lia
 rw [Int.natCast_pow,Int.natCast_pow] at h2
 exact h2
theorem lc_bits {x place : Int} (h : 0 ≤ x ∧ x < place + 1) (h1 : place ≤ 25) : (Builtin.Int.intBits 2 : Int) * x ≤ 2 ^ 27:=by
 have : Builtin.Int.intBits 2 = 2:=by decide +kernel
 rw [this]; lia
theorem lc_pos (x : Int) : (0 : Int) < 2 ^ x.toNat:=Int.pow_pos (by decide)
theorem lc_small {x place : Int} (h : 0 ≤ x ∧ x < place + 1) (h1 : place ≤ 25) : (2 : Int) ^ x.toNat < 1073741824:=by
 have : (2 : Int) ^ x.toNat ≤ 2 ^ 25:=two_pow_le (by lia)
 lia
theorem lc_two (x : Int) : x % 2 < ((("oO" : Str).length : Nat) : Int):=by
 have : ("oO" : Str).length = 2:=by decide +kernel
 lia
theorem lc_fits (x : Int) : fitsSsize (x % 2) = true:=by
 rcases Int.emod_two_eq x with h | h <;> rw [h] <;> decide
theorem join_le {a : Str} {l : List Str} {b c : Nat} (h : ∀ x ∈ l,x.length ≤ b) (hl : l.length ≤ c) (hs : c * b + c * a.length ≤ 16777216) : (l.map (·.length)).sum + l.length * a.length ≤ 16777216:=by
 have h1:=sum_len_le l h
 have h2 : l.length * b ≤ c * b:=Nat.mul_le_mul_right _ hl
 have h3 : l.length * a.length ≤ c * a.length:=Nat.mul_le_mul_right _ hl
 lia
noncomputable def rRet (G : Gl) {α : Type} (T : Ty α) (x : α) (mu : List Res) : Flow → KH → List Res → Prop:=fun f K mu'=>∃ v,f = .ret v ∧ Wk G mu' mu ∧ T.rel K v x
noncomputable def rRetP (G : Gl) (P : KH → Value → List Res → Prop) : Flow → KH → List Res → Prop:=fun f K mu'=>∃ v mu'',f = .ret v ∧ Wk G mu' mu'' ∧ P K v mu''
section
variable {G : Gl} {n : Nat} {env : Env} {mu mu₁ mu₂ mu₃ nu rest W R : List Res} {K : KH} {A : Around} {s : Shared} {E : Value → Shared → Prop} {α β γ : Type} {T : Ty α} {x y : α} {U : Ty β} {pos p apos : Pos} {ln cn fn gn : List Str} {e o l r : Expr} {xs : List α} {es : List Expr} {ts : List TV} {ks : List (Str × TV)} {ps : List (Str × TV)} {rho ka : List (Option TV)} {ca : List Addr} {st : Stmt} {ss body orelse : List Stmt} {F : Flow → KH → List Res → Prop} {P : KH → Value → List Res → Prop} {f : Addr} {fd : FuncData}
theorem Ex.ret (h : Ev G n env mu e T x mu₁) (hw : Wk G mu₁ mu₂) : Ex G n env mu (.Return (some e) pos :: ss) (rRet G T x mu₂) :=
 Ex.last ((ExS.ret h).mono fun f K mu' ⟨v,e1,e2,hr⟩=>by subst e1 e2; exact ⟨v,rfl,hw,hr⟩) fun K mu' ⟨v,e,_⟩=>by cases e
theorem rRet.toP {fl : Flow} {mu' : List Res} (h : rRet G T x mu fl K mu') : rRetP G (fun K v mu'=>mu' = mu ∧ T.rel K v x) fl K mu':=by
 obtain ⟨v,e,hw,hr⟩:=h; exact ⟨v,mu,e,hw,rfl,hr⟩
theorem rRetP.toO {fl : Flow} {mu' : List Res} (h : rRetP G P fl K mu') : fOutP G P fl K mu':=by
 obtain ⟨v,mu'',e,hw,hr⟩:=h; subst e; exact ⟨mu'',hw,hr⟩
theorem Ex.ifT {t : Expr} {b : Bool} (h : Cond G n env mu t b mu₁) (hb : b = true) (h' : Ex G n env mu₁ body F) (hn : ∀ K mu',¬ F .next K mu') : Ex G n env mu (.If t body orelse pos :: ss) F :=
 Ex.last (ExS.if_ h (fun _=>h') (fun h=>by rw [hb] at h; cases h)) hn
theorem Ex.ifF {t : Expr} {b : Bool} (h : Cond G n env mu t b mu₁) (hb : b = false) (h' : Ex G n env mu₁ ss F) : Ex G n env mu (.If t body [] pos :: ss) F :=
 Ex.next (mu₁:=mu₁) (ExS.if_ h (fun h=>by rw [hb] at h; cases h) (fun _=>Ex.nil fun K=>⟨rfl,rfl⟩)) h'
theorem Ex.ifB {t : Expr} {b : Bool} (h : Cond G n env mu t b mu₁) (ha : b = true → Ex G n env mu₁ body F) (hb : b = false → Ex G n env mu₁ ss F) (hn : ∀ K mu',¬ F .next K mu') : Ex G n env mu (.If t body [] pos :: ss) F:=by
 cases b with
 | true=>exact Ex.ifT h rfl (ha rfl) hn
 | false=>exact Ex.ifF h rfl (hb rfl)
theorem Ex.ifN {t : Expr} {b : Bool} (h : Cond G n env mu t b mu₁) (ha : b = true → Ex G n env mu₁ body (fNext mu₂)) (hb : b = false → Wk G mu₁ mu₂) (h' : Ex G n env mu₂ ss F) : Ex G n env mu (.If t body [] pos :: ss) F :=
 Ex.cons (F':=fun f _ mu'=>f = .next ∧ Wk G mu' mu₂) (ExS.if_ h (fun h=>(ha h).mono fun f K mu' ⟨e1,e2⟩=>by subst e1 e2; exact ⟨rfl,Wk.refl⟩) (fun hh=>Ex.nil fun K=>⟨rfl,hb hh⟩)) fun f K mu' ⟨e1,hw⟩=>by
  subst e1; exact Tri.weaken hw (h' K)
theorem noNext : ∀ K mu',¬ rRet G T x mu .next K mu':=fun K mu' ⟨v,e,_⟩=>by cases e
theorem dropVS {L : Addr} : Wk G (VS L ln rho ca ka ++ mu) mu:=Wk.sub (List.sublist_append_right _ _)
theorem CodX.df (h : FnOk G f fd body ln cn gn)
  (hb : ∀ K vs kvs,ARel K vs ts → BRel K kvs ks → Tri G n K mu (bindArgs fd ⟨vs,kvs⟩) fun K1 mu1 bs=>mu1 = mu ∧ BRel K1 bs ps)
  (hst : ∀ env ca,FEnv env ln cn ca gn → ca.length = cn.length → Bd G n env (VS env.locals ln (blank ln.length) ca (blank cn.length) ++ mu) ps (VS env.locals ln rho ca ka ++ mu))
  (hbd : ∀ env ca,FEnv env ln cn ca gn → ca.length = cn.length → env.code = fd.code → Ex G n env (VS env.locals ln rho ca ka ++ mu) body (rRetP G P)) : CodX G (n + 1) (.ref f) ts ks mu P:=fun K vs kvs nu A s R hv hk hA hs hR =>
 fn_runX h hA hs (hb K vs kvs hv hk) hst (fun env ca F hl _ hc=>(hbd env ca F hl hc).mono fun f K mu' q=>q.toO) hR
theorem CodX.dfR (h : FnOk G f fd body ln cn gn)
  (hb : ∀ K vs kvs,ARel K vs ts → BRel K kvs ks → Tri G n K mu (bindArgs fd ⟨vs,kvs⟩) fun K1 mu1 bs=>mu1 = mu ∧ BRel K1 bs ps)
  (hst : ∀ env ca,FEnv env ln cn ca gn → ca.length = cn.length → Bd G n env (VS env.locals ln (blank ln.length) ca (blank cn.length) ++ mu) ps (VS env.locals ln rho ca ka ++ mu))
  (hbd : ∀ env ca,FEnv env ln cn ca gn → ca.length = cn.length → env.code = fd.code → Ex G n env (VS env.locals ln rho ca ka ++ mu) body (rRet G T x mu₂)) : CodX G (n + 1) (.ref f) ts ks mu (fun K v mu'=>mu' = mu₂ ∧ T.rel K v x) :=
 CodX.df h hb hst fun env ca F hl hc=>(hbd env ca F hl hc).mono fun f K mu' q=>q.toP
theorem CodX.toCal {f : Value} (h : CodX G n f ts [] mu (fun K v mu'=>mu' = mu₁ ∧ T.rel K v x)) : Cal G n f ts mu T x mu₁:=fun K vs hv=>h.cal K vs [] hv trivial
theorem bindP {vs0 : List Str} (hb : ∀ vs : List Value,vs.length = ts.length → bindArgs fd ⟨vs,[]⟩ = pure (vs0.zip vs)) (hl : vs0.length = ts.length) : ∀ K vs kvs,ARel K vs ts → BRel K kvs [] → Tri G n K mu (bindArgs fd ⟨vs,kvs⟩) fun K1 mu1 bs=>mu1 = mu ∧ BRel K1 bs (vs0.zip ts):=fun K vs kvs hv hk=>by
 have:=All2.nil_right hk; subst this
 exact bind_plain hl hb K vs hv
theorem bind1 {a : Str} {t : TV} (hb : ∀ v : Value,bindArgs fd ⟨[v],[]⟩ = pure [(a,v)]) : ∀ K vs kvs,ARel K vs [t] → BRel K kvs [] → Tri G n K mu (bindArgs fd ⟨vs,kvs⟩) fun K1 mu1 bs=>mu1 = mu ∧ BRel K1 bs [(a,t)]:=fun K vs kvs hv hk=>by
 have:=All2.nil_right hk; subst this
 obtain ⟨v,r,rfl,h1,hr⟩:=All2.cons_right hv
 have:=hr.nil_right; subst this
 rw [hb]; exact Tri.pure ⟨rfl,⟨rfl,h1⟩,trivial⟩
theorem bind2 {a b : Str} {t u : TV} (hb : ∀ v w : Value,bindArgs fd ⟨[v,w],[]⟩ = pure [(a,v),(b,w)]) : ∀ K vs kvs,ARel K vs [t,u] → BRel K kvs [] → Tri G n K mu (bindArgs fd ⟨vs,kvs⟩) fun K1 mu1 bs=>mu1 = mu ∧ BRel K1 bs [(a,t),(b,u)]:=fun K vs kvs hv hk=>by
 have:=All2.nil_right hk; subst this
 obtain ⟨v,r,rfl,h1,hr⟩:=All2.cons_right hv
 obtain ⟨w,r',rfl,h2,hr'⟩:=All2.cons_right hr
 have:=hr'.nil_right; subst this
 rw [hb]; exact Tri.pure ⟨rfl,⟨rfl,h1⟩,⟨rfl,h2⟩,trivial⟩
theorem bind3 {a b c : Str} {t u q : TV} (hb : ∀ v w z : Value,bindArgs fd ⟨[v,w,z],[]⟩ = pure [(a,v),(b,w),(c,z)]) : ∀ K vs kvs,ARel K vs [t,u,q] → BRel K kvs [] → Tri G n K mu (bindArgs fd ⟨vs,kvs⟩) fun K1 mu1 bs=>mu1 = mu ∧ BRel K1 bs [(a,t),(b,u),(c,q)]:=fun K vs kvs hv hk=>by
 have:=All2.nil_right hk; subst this
 obtain ⟨v,r,rfl,h1,hr⟩:=All2.cons_right hv
 obtain ⟨w,r',rfl,h2,hr'⟩:=All2.cons_right hr
 obtain ⟨z,r'',rfl,h3,hr''⟩:=All2.cons_right hr'
 have:=hr''.nil_right; subst this
 rw [hb]; exact Tri.pure ⟨rfl,⟨rfl,h1⟩,⟨rfl,h2⟩,⟨rfl,h3⟩,trivial⟩
end
section
variable {G : Gl} {n : Nat} {env : Env} {mu mu₁ mu₂ mu₃ nu rest W R : List Res} {K : KH} {A : Around} {s : Shared} {E : Value → Shared → Prop} {α β γ : Type} {T : Ty α} {x y : α} {U : Ty β} {z : β} {pos p p' apos spos : Pos} {ln cn fn gn : List Str} {e o l r t : Expr} {xs : List α} {es : List Expr} {ts : List TV} {ks : List (Str × TV)} {ps : List (Str × TV)} {rho ka : List (Option TV)} {ca : List Addr} {st : Stmt} {ss body orelse : List Stmt} {F F' : Flow → KH → List Res → Prop} {P : KH → Value → List Res → Prop} {f a c : Addr} {fd : FuncData} {id : Str} {i : Nat} {q q' : Res}
theorem Ex.ifE {b : Bool} (h : Cond G n env mu t b mu₁) (hb : b = false) (h' : Ex G n env mu₁ orelse F) (hn : ∀ K mu',¬ F .next K mu') : Ex G n env mu (.If t body orelse pos :: ss) F :=
 Ex.last (ExS.if_ h (fun h=>by rw [hb] at h; cases h) (fun _=>h')) hn
theorem Ex.newList (FE : FEnv env ln cn ca gn) (h1 : ln[i]? = some id) (hi : i < rho.length) (h : EvEs G n env (VS env.locals ln rho ca ka ++ R) pos es T xs (VS env.locals ln rho ca ka ++ R)) (hz : xs.length ≤ 100000)
  (k : ∀ a,Ex G n env (VS env.locals ln (rho.set i (some ⟨tVal,.ref a⟩)) ca ka ++ (rList a T xs :: R)) ss F)
  (hs : swapsWith (.List es pos) (some (.Name id p)) spos.line env = pure false:=by rfl) (hw : swappedStores [.Name id p] (.List es pos) env = pure none:=by rfl) : Ex G n env (VS env.locals ln rho ca ka ++ R) (.Assign [.Name id p] (.List es pos) spos :: ss) F :=
 Ex.nextX (M:=fun a=>VS env.locals ln (rho.set i (some ⟨tVal,.ref a⟩)) ca ka ++ (rList a T xs :: R)) (ExS.assignX (EvX.list h (by rw [sizeLine_nat]; lia)) (fun K v mu' ⟨a,e1,e2⟩=>by
  subst e1 e2
  exact Tri.mono (As.loc (G:=G) (n:=n) (rho:=rho) (ka:=ka) (rest:=rList a T xs :: R) (pos:=p) FE h1 hi (T:=tVal) (x:=.ref a) K _ rfl) fun K' mu'' _ _ e=>⟨rfl,a,e⟩) rfl hs hw) k
theorem Ex.newListC (FE : FEnv env ln cn ca gn) (h1 : cn[i]? = some id) (h2 : ca[i]? = some c) (hi : i < ka.length) (h : EvEs G n env (VS env.locals ln rho ca ka ++ R) pos es T xs (VS env.locals ln rho ca ka ++ R)) (hz : xs.length ≤ 100000)
  (k : ∀ a,Ex G n env (VS env.locals ln rho ca (ka.set i (some ⟨tVal,.ref a⟩)) ++ (rList a T xs :: R)) ss F)
  (hs : swapsWith (.List es pos) (some (.Name id p)) spos.line env = pure false:=by rfl) (hw : swappedStores [.Name id p] (.List es pos) env = pure none:=by rfl) : Ex G n env (VS env.locals ln rho ca ka ++ R) (.Assign [.Name id p] (.List es pos) spos :: ss) F :=
 Ex.nextX (M:=fun a=>VS env.locals ln rho ca (ka.set i (some ⟨tVal,.ref a⟩)) ++ (rList a T xs :: R)) (ExS.assignX (EvX.list h (by rw [sizeLine_nat]; lia)) (fun K v mu' ⟨a,e1,e2⟩=>by
  subst e1 e2
  exact Tri.mono (As.cel (G:=G) (n:=n) (rho:=rho) (ka:=ka) (rest:=rList a T xs :: R) (pos:=p) FE h1 h2 hi (T:=tVal) (x:=.ref a) K _ rfl) fun K' mu'' _ _ e=>⟨rfl,a,e⟩) rfl hs hw) k
theorem Ex.app (FE : FEnv env ln cn ca gn) (ho : Ev G n env (W ++ R) o tVal (.ref a) (W ++ R)) (hx : Ev G n env (W ++ R) e T x (W ++ R)) (hi : R[i]? = some (rList a T xs)) (hz : xs.length ≤ 100000) (k : Ex G n env (W ++ R.set i (rList a T (xs ++ [x]))) ss F)
  (hst : starEach [e] env = [(false,eval e env)]:=by rfl) {pl : Sem Bool} (he : eval (.Call (.Attribute o "append" apos) [e] [] pos) env = (do
   let ov ← eval o env
   standAt apos.atName
   let (f,first) ← holding [ov] (getMethod ov "append" pl)
   callWith pos f first (backTo pos (starEach [e] env)) (backToKw pos (keywordEach [] env))):=by rfl)
  (hs : swapsWith (.Call (.Attribute o "append" apos) [e] [] pos) none p.line env = pure false:=by rfl) : Ex G n env (W ++ R) (.Expr (.Call (.Attribute o "append" apos) [e] [] pos) p :: ss) F :=
 Ex.next (ExS.expr (Ev.append ho hx hi (by rw [sizeLine_nat]; lia) hst he) noRef_none FE.calm hs) k
theorem Ex.eff (FE : FEnv env ln cn ca gn) (h : Ev G n env mu e T x mu₁) (hv : ∀ K v,T.rel K v x → ∀ a,v ≠ .ref a) (k : Ex G n env mu₁ ss F) (hs : swapsWith e none p.line env = pure false:=by rfl) : Ex G n env mu (.Expr e p :: ss) F :=
 Ex.next (ExS.expr h hv FE.calm hs) k
theorem Ex.asg (h : Ev G n env mu e T x mu₁) (ha : As G n env mu₁ t T x mu₂) (k : Ex G n env mu₂ ss F) (hst : assignEach [t] env = [(false,PySem.assign t env)]:=by rfl)
  (hs : swapsWith e (some t) pos.line env = pure false:=by rfl) (hw : swappedStores [t] e env = pure none:=by rfl) : Ex G n env mu (.Assign [t] e pos :: ss) F:=Ex.next (ExS.assign h ha hst hs hw) k
theorem Vl.at {tr : Sem Value} (h : Vl G n K [q] tr T x [q']) (hi : R[i]? = some q) : Vl G n K (W ++ R) tr T x (W ++ R.set i q'):=fun nu A s hA hs=>by
 obtain ⟨pa,pb⟩:=split_R (W:=W) (nu:=nu) (r':=q') hi
 refine Vl.use (nu:=W ++ R.eraseIdx i ++ nu) h hA (hs.perm pa) fun K' v s' hle ho hr=>?_
 exact ⟨K',_,hle,ho.perm pb.symm,rfl,hr⟩
theorem Cal.at {fv : Value} (h : Cal G n fv ts [q] T x [q']) (hi : R[i]? = some q) : Cal G n fv ts (W ++ R) T x (W ++ R.set i q'):=fun K vs hv=>(h K vs hv).at hi
theorem CalK.at {fv : Value} (h : CalK G n fv ts ks [q] T x [q']) (hi : R[i]? = some q) : CalK G n fv ts ks (W ++ R) T x (W ++ R.set i q'):=fun K vs kvs hv hk=>(h K vs kvs hv hk).at hi
theorem set_same {l : List Res} (h : l[i]? = some q) : l.set i q = l:=by
 obtain ⟨h1,h2⟩:=List.getElem?_eq_some_iff.mp h
 rw [← h2,List.set_getElem_self]
theorem CalK.at0 {fv : Value} (h : CalK G n fv ts ks [q] T x [q]) (hi : R[i]? = some q) : CalK G n fv ts ks (W ++ R) T x (W ++ R):=by
 have:=h.at (W:=W) hi
 rwa [set_same hi] at this
end
section
variable {G : Gl} {n : Nat} {env : Env} {mu mu₁ mu₂ mu₃ nu rest : List Res} {K : KH} {A : Around} {s : Shared} {E : Value → Shared → Prop} {α β γ : Type} {T : Ty α} {x : α} {e l r : Expr} {pos p : Pos} {F F' : Flow → KH → List Res → Prop}
theorem EvIt.toN {t iter : Expr} {xs : List α} {mu' last : List Res} (h : EvIt G n env mu iter t T xs mu' last) : ∀ K,Tri G n K mu (eval iter env) fun K1 mu1 v=>Tri G n K1 mu1 (pyIter v) fun K2 mu2 w=>∃ it R ys,w = .ref it ∧ mu2 = R 0 ++ mu' ∧ ys = xs ∧ ItN G K2 t T it ys R last ∧ ∀ k,Wk G (R k) []:=fun K =>
 (h K).mono fun K1 mu1 v _ q=>q.mono fun K2 mu2 w _ ⟨it,R,e1,e2,I⟩=>⟨it,R,xs,e1,e2,rfl,⟨I.item,I.stop⟩,fun _=>Wk.sub (List.nil_sublist _)⟩
theorem ExS.forI {t iter : Expr} {body : List Stmt} {xs : List α} {last : List Res} (J : Nat → List Res) (I : Nat → Prop) (hi : EvIt G n env mu iter t T xs (J 0) last) (hI : I 0)
  (hb : ∀ (k : Nat) (x : α),xs[k]? = some x → I k → ∃ mu₁,As G n env (J k) t T x mu₁ ∧ Ex G n env mu₁ body fun f K mu'=>match f with | .next=>Wk G mu' (J (k + 1)) ∧ I (k + 1) | .cont=>Wk G mu' (J (k + 1)) ∧ I (k + 1) | .ret v=>F (.ret v) K mu' | .brk=>False)
  (hend : I xs.length → ∀ K,F .next K (J xs.length ++ last)) (hs : ∀ x,foldedSetIterable iter env x = pure x:=by intro _; rfl) : ExS G n env mu (.For t iter body [] pos) F :=
 ExS.forQ (T:=T) (keep:=[]) (fun ys=>ys = xs) (fun _ k=>J k) (fun _ k=>I k) hi.toN (fun ys e=>⟨rfl,hI⟩) (fun ys e k x hx hIk=>by subst e; obtain ⟨m,h1,h2⟩:=hb k x hx hIk; refine ⟨m,h1,h2.mono fun f K mu' h=>?_⟩; cases f <;> first | exact h | (rw [List.append_nil]; exact h)) (fun ys e hI K=>by subst e; exact hend hI K) hs
theorem ExS.for_ {t iter : Expr} {body : List Stmt} {xs : List α} {last : List Res} (J : Nat → List Res) (hi : EvIt G n env mu iter t T xs (J 0) last)
  (hb : ∀ (k : Nat) (x : α),xs[k]? = some x → ∃ mu₁,As G n env (J k) t T x mu₁ ∧ Ex G n env mu₁ body fun f K mu'=>match f with | .next=>Wk G mu' (J (k + 1)) | .cont=>Wk G mu' (J (k + 1)) | .ret v=>F (.ret v) K mu' | .brk=>False)
  (hend : ∀ K,F .next K (J xs.length ++ last)) (hs : ∀ x,foldedSetIterable iter env x = pure x:=by intro _; rfl) : ExS G n env mu (.For t iter body [] pos) F :=
 ExS.forI J (fun _=>True) hi trivial (fun k x hx _=>by
  obtain ⟨m,h1,h2⟩:=hb k x hx
  refine ⟨m,h1,h2.mono fun f K mu' h=>?_⟩
  cases f <;> first | exact ⟨h,trivial⟩ | exact h) (fun _=>hend) hs
theorem EvIt.toNO {t : Expr} {xs : List α} {a : Addr} {mu' : List Res} {e : Expr} (h : Ev G n env mu e tVal (.ref a) mu₁) (hp : mu₁.Perm (rList a T xs :: mu')) : ∀ K,Tri G n K mu (eval e env) fun K1 mu1 v=>Tri G n K1 mu1 (pyIter v) fun K2 mu2 w=>∃ it R ys,w = .ref it ∧ mu2 = R 0 ++ mu' ∧ ys = xs ∧ ItN G K2 t T it ys R [rList a T xs] ∧ ∀ k,Wk G (R k) [rList a T xs]:=fun K=>(h K).mono fun K1 mu1 v _ ⟨e1,r1⟩=>by
 subst e1
 have r1 : v = .ref a:=r1
 subst r1
 intro nu A s hA hs
 have hs:=hs.perm (hp.append_right nu)
 obtain ⟨ol,el,vs,m,rfl,hr⟩:=hs.get (r:=rList a T xs) List.mem_cons_self
 have It : ItR G K1 t T s.heap.objs.size xs (fun k=>[rIter s.heap.objs.size a k,rList a T xs]) [rList a T xs]:=it_listO
 refine wpAny_pyIter_list (isList_of el) ⟨K1,rIter s.heap.objs.size a 0 :: rList a T xs :: mu',.refl _,?_,s.heap.objs.size,(fun k=>[rIter s.heap.objs.size a k,rList a T xs]),xs,rfl,rfl,rfl,⟨It.item,It.stop⟩,fun k=>Wk.sub (List.sublist_cons_self _ _)⟩
 exact hs.pushOwned { cls:=.type "list_iterator", data:=.fields #[.ref a,.int 0 0] } (rIter s.heap.objs.size a 0) rfl ⟨rfl,rfl⟩
end
section
variable {G : Gl} {n : Nat} {env : Env} {mu mu₁ mu₂ mu₃ nu rest last W R : List Res} {K : KH} {A : Around} {s : Shared} {E : Value → Shared → Prop} {α β γ : Type} {T : Ty α} {x : α} {U : Ty β} {y : β} {V : Ty γ} {z : γ} {e l r o e' : Expr} {pos p apos : Pos} {xs ys : List α} {es : List Expr} {ts : List TV} {ks : List (Str × TV)} {name : Str} {C f : Addr} {as : List (Str × TV)} {kws : List Keyword}
theorem ExS.setAttrX {dx xa : Addr} {tp : Pos} {P : KH → Value → List Res → Prop} {F : Flow → KH → List Res → Prop} (hC : ClsS G C) (hx : EvX G n env mu e P)
  (hP : ∀ K v mu',P K v mu' → ∃ (tv : TV) (W R : List Res) (i : Nat),mu' = W ++ R ∧ tv.T.rel K v tv.x ∧ Ev G n env (W ++ R) o (tObj C dx) xa (W ++ R) ∧ R[i]? = some (rAttr dx as) ∧ ∀ K,F .next K (W ++ R.set i (rAttr dx (as ++ [(name,tv)]))))
  (hn : (as.map (·.1)).contains name = false) (hl : as.length ≤ 900) (ht : takerIn G.fr C name = some none)
  (hsw : swapsWith e (some (.Attribute o name tp)) pos.line env = pure false:=by rfl) : ExS G n env mu (.Assign [.Attribute o name tp] e pos) F:=fun K nu A s hA hs =>
 plainObj_wpAny_Assign_Attribute (Tri.use (hx K) hA hs fun K1 mu1 v s1 h1 o1 rP=>by
  obtain ⟨tv,W,R,i,rfl,r1,ho,hi,hF⟩:=hP K1 v mu1 rP
  refine ho.use hA o1 fun K2 w s2 h2 o2 ⟨e2,hk2⟩=>?_
  subst e2
  obtain ⟨ob,e3,es,m,rfl,hat⟩:=o2.get (mem_R hi)
  have e3 : s2.heap.get? dx = some (dictOf es m):=e3
  obtain ⟨m1,m2,m3⟩:=hat.miss hn
  have I : InstAt s2.heap xa (instObj C dx) C (some (dictOf es m)):=⟨o2.k _ _ hk2,rfl,rfl,e3⟩
  have hlen:=All2.length hat
  refine wpAny_mono (setA_all hC (o2.fr_in hC.g.top) I e3 m1 ?_ ht) (fun _ s3 x=>?_) fun _ _ x=>x
  ·rw [m3,List.length_append,hlen]; simp only [List.length_singleton]; lia
  ·obtain ⟨h',rfl,hd,hx⟩:=x
   obtain ⟨pa,pb⟩:=split_R (W:=W) (nu:=nu) (r':=rAttr dx (as ++ [(name,tv)])) hi
   have o3:=Own.changeX (r':=rAttr dx (as ++ [(name,tv)])) (h':=h') (t:=s2.toks + 1 + 1) (o2.perm pa) rfl hx hd ⟨_,_,rfl,?_⟩ (by lia)
   ·exact ⟨K2,_,h1.trans h2,o3.perm pb.symm,hF K2⟩
   ·rw [m3]
    exact All2.snoc hat ⟨⟨_,rfl⟩,tv.T.mono h2 r1⟩) hsw
theorem Ev.callT0 {f : Expr} {tn : String} (hf : Ev G n env mu f tVal (.type tn) mu₁) (hc : Cal G n (.type tn) [] mu₁ T x mu₂)
  (hn : eval (.Call f [] [] pos) env = (do callWith pos (← eval f env) [] (backTo pos (starEach [] env)) (backToKw pos (keywordEach [] env))):=by rfl) : Ev G n env mu (.Call f [] [] pos) T x mu₂:=fun K nu A s hA hs=>by
 rw [hn]
 refine wpAny_bind (hf.use hA hs fun K1 v s1 h1 o1 r1=>?_)
 have r1 : v = .type tn:=r1
 subst r1
 refine PySem.callWith_type rfl (Tri.use (EvA.args' (f:=.type tn) (EvA.nil (G:=G) (n:=n) (env:=env) (mu:=mu₁) (pos:=pos)) rfl K1) hA o1 fun K2 mu2 a s2 h2 o2 ⟨e2,vs,e3,r2⟩=>?_)
 subst e2 e3
 have:=r2.nil_right; subst this
 exact Vl.use (hc K2 [] trivial) hA o2 fun K3 v s3 h3 o3 r3=>done (h1.trans (h2.trans h3)) o3 r3
noncomputable def tHd (C : Addr) : Ty Addr:=⟨fun K v a=>(tInst C [("_headers", ⟨tVal,.ref a⟩)]).rel K v (),fun hle h=>(tInst C _).mono hle h⟩
structure Ig where
 mods : List Str
 dirs : List Str
 d : Addr
noncomputable def igAttrs (G : Gl) (x : Ig) : List (Str × TV):=[("_mods", ⟨tSet G,x.mods⟩),("_dirs", ⟨tList tStr,x.dirs⟩),("_ignore", ⟨tVal,.ref x.d⟩)]
noncomputable def tIg (G : Gl) (C : Addr) : Ty Ig:=⟨fun K v x=>(tInst C (igAttrs G x)).rel K v (),fun hle h=>(tInst C _).mono hle h⟩
inductive OptL : TV → List Str → Prop
 | none : OptL ⟨tNone,()⟩ []
 | list (xs : List Str) : OptL ⟨tList tStr,xs⟩ xs
theorem OptL.tru {tv : TV} {xs : List Str} (h : OptL tv xs) (hz : xs.length ≤ 100000) : Tru G tv.T tv.x (!xs.isEmpty):=by
 cases h with
 | none=>exact tru_none
 | list=>exact tru_list (xs:=xs) (by rw [sizeLine_nat]; lia)
end
noncomputable abbrev tH : Ty Addr := tHd 182
theorem find_at {α : Type} {q : α → Bool} : ∀ {xs : List α} {k : Nat} {x : α},xs[k]? = some x → q x = true → (∀ y ∈ xs.take k,q y = false) → xs.find? q = some x
 | y :: xs,0,x,h,hq,_=>by
  simp only [List.getElem?_cons_zero,Option.some.injEq] at h
  subst h
  rw [List.find?_cons,hq]
 | y :: xs,k + 1,x,h,hq,hI=>by
  rw [List.getElem?_cons_succ] at h
  rw [List.find?_cons,hI y (by rw [List.take_succ_cons]; exact List.mem_cons_self)]
  exact find_at h hq fun z hz=>hI z (by rw [List.take_succ_cons]; exact List.mem_cons_of_mem _ hz)
 | [],k,x,h,_,_=>by simp at h
theorem take_snoc {α : Type} {xs : List α} {k : Nat} {x : α} (h : xs[k]? = some x) : xs.take (k + 1) = xs.take k ++ [x]:=by rw [List.take_add_one,h]; rfl
section
variable {G : Gl} {n : Nat} {env : Env} {mu mu₁ mu₂ mu₃ nu rest : List Res} {K : KH} {A : Around} {s : Shared} {α β γ : Type} {T : Ty α} {x : α} {e l r t iter : Expr} {pos p : Pos} {body ss : List Stmt} {Φ : Flow → KH → List Res → Prop} {xs : List α} {st : Stmt}
theorem ExS.searchL {J last : List Res} {Ψ : α → Flow → KH → List Res → Prop} (q : α → Bool) (hi : EvIt G n env mu iter t T xs J last)
  (hb : ∀ x ∈ xs,∃ mu₁,As G n env J t T x mu₁ ∧ (q x = true → Ex G n env mu₁ body (fun f K mu'=>∃ v,f = .ret v ∧ Ψ x f K mu')) ∧ (q x = false → Ex G n env mu₁ body (fun f _ mu'=>f = .next ∧ Wk G mu' J)))
  (hs : ∀ x,foldedSetIterable iter env x = pure x:=by intro _; rfl) :
  ExS G n env mu (.For t iter body [] pos) (fun f K mu'=>(f = .next ∧ mu' = J ++ last ∧ xs.find? q = none) ∨ ∃ x v,f = .ret v ∧ xs.find? q = some x ∧ Ψ x f K mu') :=
 ExS.forI (fun _=>J) (fun k=>∀ y ∈ xs.take k,q y = false) hi (fun y hy=>by simp at hy) (fun k x hx hI=>by
  obtain ⟨mu₁,h1,h2,h3⟩:=hb x (List.mem_of_getElem? hx)
  refine ⟨mu₁,h1,?_⟩
  cases hq : q x with
  | true =>
   refine (h2 hq).mono fun f K mu' ⟨v,e,h⟩=>?_
   subst e
   exact .inr ⟨x,v,rfl,find_at hx hq hI,h⟩
  | false =>
   refine (h3 hq).mono fun f K mu' ⟨e,h⟩=>?_
   subst e
   refine ⟨h,fun y hy=>?_⟩
   rw [take_snoc hx] at hy
   rcases List.mem_append.mp hy with hy | hy
   ·exact hI y hy
   ·rw [List.mem_singleton.mp hy]; exact hq)
  (fun hI K=>.inl ⟨rfl,rfl,List.find?_eq_none.mpr fun y hy=>by rw [hI y (by rw [List.take_length]; exact hy)]; decide⟩) hs
theorem ExS.searchLO {J : List Res} {a : Addr} {Ψ : α → Flow → KH → List Res → Prop} (q : α → Bool) (hi : Ev G n env mu iter tVal (.ref a) mu₁) (hp : mu₁.Perm (rList a T xs :: J))
  (hb : ∀ x ∈ xs,∃ mu₁,As G n env J t T x mu₁ ∧ (q x = true → Ex G n env mu₁ body (fun f K mu'=>∃ v,f = .ret v ∧ Ψ x f K (mu' ++ [rList a T xs]))) ∧ (q x = false → Ex G n env mu₁ body (fun f _ mu'=>f = .next ∧ Wk G mu' J)))
  (hs : ∀ x,foldedSetIterable iter env x = pure x:=by intro _; rfl) :
  ExS G n env mu (.For t iter body [] pos) (fun f K mu'=>(f = .next ∧ mu' = J ++ [rList a T xs] ∧ xs.find? q = none) ∨ ∃ x v,f = .ret v ∧ xs.find? q = some x ∧ Ψ x f K mu') :=
 ExS.forQ (T:=T) (keep:=[rList a T xs]) (fun ys=>ys = xs) (fun _ _=>J) (fun ys k=>∀ y ∈ ys.take k,q y = false) (EvIt.toNO hi hp) (fun ys _=>⟨rfl,fun y hy=>by simp at hy⟩) (fun ys he k x hx hI=>by
  subst he
  obtain ⟨mu₁,h1,h2,h3⟩:=hb x (List.mem_of_getElem? hx)
  refine ⟨mu₁,h1,?_⟩
  cases hq : q x with
  | true =>
   refine (h2 hq).mono fun f K mu' ⟨v,e,h⟩=>?_
   subst e
   exact .inr ⟨x,v,rfl,find_at hx hq hI,h⟩
  | false =>
   refine (h3 hq).mono fun f K mu' ⟨e,h⟩=>?_
   subst e
   refine ⟨h,fun y hy=>?_⟩
   rw [take_snoc hx] at hy
   rcases List.mem_append.mp hy with hy | hy
   ·exact hI y hy
   ·rw [List.mem_singleton.mp hy]; exact hq)
  (fun ys he hI K=>by subst he; exact .inl ⟨rfl,rfl,List.find?_eq_none.mpr fun y hy=>by rw [hI y (by rw [List.take_length]; exact hy)]; decide⟩) hs
theorem Ex.searchL {L : List Res} {Ψ : α → Flow → KH → List Res → Prop} (q : α → Bool) (h : ExS G n env mu st (fun f K mu'=>(f = .next ∧ mu' = L ∧ xs.find? q = none) ∨ ∃ x v,f = .ret v ∧ xs.find? q = some x ∧ Ψ x f K mu'))
  (h1 : xs.find? q = none → Ex G n env L ss Φ) (h2 : ∀ x v K mu',xs.find? q = some x → Ψ x (.ret v) K mu' → Φ (.ret v) K mu') : Ex G n env mu (st :: ss) Φ :=
 Ex.cons h fun f K mu' hq=>by
  rcases hq with ⟨rfl,rfl,e⟩ | ⟨x,v,rfl,e,hp⟩
  ·exact h1 e K
  ·exact h2 x v K mu' e hp
theorem ExS.searchS {J last : List Res} {Ψ : Flow → KH → List Res → Prop} (q : α → Bool) (hi : ∀ K,Tri G n K mu (eval iter env) fun K1 mu1 v=>Tri G n K1 mu1 (pyIter v) fun K2 mu2 w=>∃ it R ys,w = .ref it ∧ mu2 = R 0 ++ J ∧ ys.Perm xs ∧ ItN G K2 t T it ys R last)
  (hb : ∀ x ∈ xs,∃ mu₁,As G n env J t T x mu₁ ∧ (q x = true → Ex G n env mu₁ body (fun f K mu'=>∃ v,f = .ret v ∧ Ψ f K mu')) ∧ (q x = false → Ex G n env mu₁ body (fun f _ mu'=>f = .next ∧ Wk G mu' J)))
  (hs : ∀ x,foldedSetIterable iter env x = pure x:=by intro _; rfl) :
  ExS G n env mu (.For t iter body [] pos) (fun f K mu'=>(f = .next ∧ mu' = J ++ last ∧ xs.any q = false) ∨ ∃ v,f = .ret v ∧ xs.any q = true ∧ Ψ f K mu') :=
 ExS.forQ (T:=T) (keep:=[]) (fun ys=>ys.Perm xs) (fun _ _=>J) (fun ys k=>∀ y ∈ ys.take k,q y = false) (fun K=>(hi K).mono fun K1 mu1 v _ q=>q.mono fun K2 mu2 w _ ⟨it,R,ys,e1,e2,e3,I⟩=>⟨it,R,ys,e1,e2,e3,I,fun _=>Wk.sub (List.nil_sublist _)⟩) (fun ys _=>⟨rfl,fun y hy=>by simp at hy⟩) (fun ys hp k x hx hI=>by
  have hxm:=hp.mem_iff.mp (List.mem_of_getElem? hx)
  obtain ⟨mu₁,h1,h2,h3⟩:=hb x hxm
  refine ⟨mu₁,h1,?_⟩
  cases hq : q x with
  | true =>
   refine (h2 hq).mono fun f K mu' ⟨v,e,h⟩=>?_
   subst e
   exact .inr ⟨v,rfl,List.any_eq_true.mpr ⟨x,hxm,hq⟩,by rw [List.append_nil]; exact h⟩
  | false =>
   refine (h3 hq).mono fun f K mu' ⟨e,h⟩=>?_
   subst e
   refine ⟨h,fun y hy=>?_⟩
   rw [take_snoc hx] at hy
   rcases List.mem_append.mp hy with hy | hy
   ·exact hI y hy
   ·rw [List.mem_singleton.mp hy]; exact hq)
  (fun ys hp hI K=>.inl ⟨rfl,rfl,by
   rw [List.any_eq_false]
   intro y hy
   rw [hI y (by rw [List.take_length]; exact hp.mem_iff.mpr hy)]; decide⟩) hs
theorem Ex.searchS {L : List Res} {Ψ : Flow → KH → List Res → Prop} (q : α → Bool) (h : ExS G n env mu st (fun f K mu'=>(f = .next ∧ mu' = L ∧ xs.any q = false) ∨ ∃ v,f = .ret v ∧ xs.any q = true ∧ Ψ f K mu'))
  (h1 : xs.any q = false → Ex G n env L ss Φ) (h2 : ∀ v K mu',xs.any q = true → Ψ (.ret v) K mu' → Φ (.ret v) K mu') : Ex G n env mu (st :: ss) Φ :=
 Ex.cons h fun f K mu' hq=>by
  rcases hq with ⟨rfl,rfl,e⟩ | ⟨v,rfl,e,hp⟩
  ·exact h1 e K
  ·exact h2 v K mu' e hp
theorem Ev.toSetIt {ss : List Str} (h : Ev G n env mu e (tSet G) ss mu₁) (ht : ∀ it v,letOwnedTupleGo t it v = pure ()) : ∀ K,Tri G n K mu (eval e env) fun K1 mu1 v=>Tri G n K1 mu1 (pyIter v) fun K2 mu2 w=>∃ it R ys,w = .ref it ∧ mu2 = R 0 ++ mu₁ ∧ ys.Perm ss ∧ ItN G K2 t tStr it ys R []:=fun K =>
 (h K).mono fun K1 mu1 v _ ⟨e1,a,es,ep,tb,e2,hk,hS⟩=>by subst e1 e2; exact iter_set hS hk ht
end
section
variable {G : Gl} {n : Nat} {env : Env} {mu mu₁ mu₂ mu₃ nu rest W R : List Res} {K : KH} {A : Around} {s : Shared} {α β γ : Type} {T : Ty α} {x : α} {U : Ty β} {y : β} {e l r t a b : Expr} {pos p : Pos} {ss : List Stmt} {F : Flow → KH → List Res → Prop} {ι κ : Type}
theorem Ex.asgX {M M' : ι → List Res} {Tv : ι → TV} (h : EvX G n env mu e (fun K v mu'=>∃ i,mu' = M i ∧ (Tv i).T.rel K v (Tv i).x)) (ha : ∀ i,As G n env (M i) t (Tv i).T (Tv i).x (M' i)) (k : ∀ i,Ex G n env (M' i) ss F)
  (hst : assignEach [t] env = [(false,PySem.assign t env)]:=by rfl) (hs : swapsWith e (some t) pos.line env = pure false:=by rfl) (hw : swappedStores [t] e env = pure none:=by rfl) : Ex G n env mu (.Assign [t] e pos :: ss) F :=
 Ex.nextX (M:=M') (ExS.assignX h (fun K v mu' ⟨i,e1,hr⟩=>by subst e1; exact (ha i K v hr).mono fun K' mu'' _ _ e=>⟨rfl,i,e⟩) hst hs hw) k
theorem Ev.toI (h : Ev G n env mu e T x mu₁) : EvX G n env mu e (fun K v mu'=>∃ i : Unit,mu' = (fun _=>mu₁) i ∧ ((fun _=>(⟨T,x⟩ : TV)) i).T.rel K v ((fun _=>(⟨T,x⟩ : TV)) i).x):=fun K=>(h K).mono fun K' mu' v _ ⟨e1,r⟩=>⟨(),e1,r⟩
theorem EvX.pair {k : Nat} {M : ι → List Res} {Tv : ι → TV} {M2 : ι → κ → List Res} {Tw : ι → κ → TV} (h : EvX G n env mu a (fun K v mu'=>∃ i,mu' = M i ∧ (Tv i).T.rel K v (Tv i).x)) (h' : ∀ i,EvX G n env (M i) b (fun K v mu'=>∃ j,mu' = M2 i j ∧ (Tw i j).T.rel K v (Tw i j).x))
  (hst : starEach [a,b] env = [(false,eval a env),(false,eval b env)]:=by rfl) :
  EvX G n env mu (.Tuple [a,b] k pos) (fun K v mu'=>∃ q : ι × κ,mu' = M2 q.1 q.2 ∧ (tPair (Tv q.1).T (Tw q.1 q.2).T).rel K v ((Tv q.1).x,(Tw q.1 q.2).x)):=fun K nu A s hA hs=>by
 refine wpAny_Tuple_spliced ?_
 have : backTo pos (starEach [a,b] env) = [(false,eval a env),(false,eval b env)]:=by rw [hst]; rfl
 rw [this]
 refine Calls.spliced_cons (Tri.use (h K) hA hs fun K1 mu1 v s1 h1 o1 ⟨i,e1,r1⟩=>?_)
 subst e1
 refine Calls.spliced_cons (Tri.use (h' i K1) hA o1 fun K2 mu2 w s2 h2 o2 ⟨j,e2,r2⟩=>Calls.spliced_nil ⟨by show _ ≤ 2 ^ 24; simp,?_⟩)
 subst e2
 obtain ⟨K',mu',q1,q2,q3,q4⟩:=done_pair (h1.trans h2) o2 ((Tv i).T.mono h2 r1) r2
 exact ⟨K',mu',q1,q2,(i,j),q3,q4⟩
theorem EvX.trip {c : Expr} {ξ : Type} {k : Nat} {M : ι → List Res} {Tv : ι → TV} {M2 : ι → κ → List Res} {Tw : ι → κ → TV} {M3 : ι → κ → ξ → List Res} {Tz : ι → κ → ξ → TV} (h : EvX G n env mu a (fun K v mu'=>∃ i,mu' = M i ∧ (Tv i).T.rel K v (Tv i).x)) (h' : ∀ i,EvX G n env (M i) b (fun K v mu'=>∃ j,mu' = M2 i j ∧ (Tw i j).T.rel K v (Tw i j).x))
  (h'' : ∀ i j,EvX G n env (M2 i j) c (fun K v mu'=>∃ l,mu' = M3 i j l ∧ (Tz i j l).T.rel K v (Tz i j l).x)) (hst : starEach [a,b,c] env = [(false,eval a env),(false,eval b env),(false,eval c env)]:=by rfl) :
  EvX G n env mu (.Tuple [a,b,c] k pos) (fun K v mu'=>∃ q : ι × κ × ξ,mu' = M3 q.1 q.2.1 q.2.2 ∧ (tTrip (Tv q.1).T (Tw q.1 q.2.1).T (Tz q.1 q.2.1 q.2.2).T).rel K v ((Tv q.1).x,(Tw q.1 q.2.1).x,(Tz q.1 q.2.1 q.2.2).x)):=fun K nu A s hA hs=>by
 refine wpAny_Tuple_spliced ?_
 have : backTo pos (starEach [a,b,c] env) = [(false,eval a env),(false,eval b env),(false,eval c env)]:=by rw [hst]; rfl
 rw [this]
 refine Calls.spliced_cons (Tri.use (h K) hA hs fun K1 mu1 v s1 h1 o1 ⟨i,e1,r1⟩=>?_)
 subst e1
 refine Calls.spliced_cons (Tri.use (h' i K1) hA o1 fun K2 mu2 w s2 h2 o2 ⟨j,e2,r2⟩=>?_)
 subst e2
 refine Calls.spliced_cons (Tri.use (h'' i j K2) hA o2 fun K3 mu3 q s3 h3 o3 ⟨l,e3,r3⟩=>Calls.spliced_nil ⟨by show _ ≤ 2 ^ 24; simp,?_⟩)
 subst e3
 obtain ⟨K',mu',q1,q2,q3,q4⟩:=done_trip (h1.trans (h2.trans h3)) o3 ((Tv i).T.mono (h2.trans h3) r1) ((Tw i j).T.mono h3 r2) r3
 exact ⟨K',mu',q1,q2,(i,j,l),q3,q4⟩
end
section
variable {G : Gl} {n : Nat} {env : Env} {mu mu₁ mu₂ mu₃ nu rest W R last : List Res} {K : KH} {A : Around} {s : Shared} {α β γ : Type} {T : Ty α} {x : α} {U : Ty β} {y : β} {e l r t a b : Expr} {pos p : Pos} {ss body : List Stmt} {F F' : Flow → KH → List Res → Prop} {ι κ : Type} {ln cn fn gn ln₀ cn₀ gn₀ : List Str} {rho ka rho' ka' : List (Option TV)} {ca ca₀ : List Addr} {id : Str} {sc : Scope} {xs : List α} {fl : Flow}
theorem forget_zip : ∀ {ca : List Addr} {ka ka' : List (Option TV)},Forget ka ka' → (List.zipWith rC ca ka').map (·.a) = (List.zipWith rC ca ka).map (·.a) ∧ ∀ r' ∈ List.zipWith rC ca ka',∃ r ∈ List.zipWith rC ca ka,r.a = r'.a ∧ ∀ K o,r.P K o → r'.P K o
 | [],_,_,_=>⟨by simp,fun r' h=>by simp at h⟩
 | c :: ca,[],[],_=>⟨by simp,fun r' h=>by simp at h⟩
 | c :: ca,k :: ka,k' :: ka',⟨a,b⟩=>by
  obtain ⟨h1,h2⟩:=forget_zip (ca:=ca) b
  refine ⟨by simp [h1,rC_a],fun r' hr=>?_⟩
  rw [List.zipWith_cons_cons] at hr ⊢
  rcases List.mem_cons.mp hr with rfl | hr
  ·refine ⟨_,List.mem_cons_self,by rw [rC_a,rC_a],fun K o h=>?_⟩
   rcases a with a | a
   ·subst a; exact rC_cell h
   ·subst a; exact h
  ·obtain ⟨r,q1,q2,q3⟩:=h2 r' hr
   exact ⟨r,List.mem_cons_of_mem _ q1,q2,q3⟩
theorem Wk.forgetA {L : Addr} (h : Forget rho rho') (h' : Forget ka ka') : Wk G (VS L ln rho ca ka ++ rest) (VS L ln rho' ca ka' ++ rest):=fun K nu s x=>by
 obtain ⟨h1,h2⟩:=forget_zip (ca:=ca) h'
 refine x.tell (by simp only [VS,List.map_append,List.map_cons,h1]; rfl) fun r hr=>?_
 rw [VS,List.append_assoc,List.cons_append] at hr ⊢
 rcases List.mem_cons.mp hr with rfl | hr
 ·exact ⟨_,List.mem_cons_self,rfl,fun K o ⟨m,hn,hf⟩=>⟨m,hn,fun i nm tv h1 h2=>hf i nm tv h1 (h.get h2)⟩⟩
 ·rcases List.mem_append.mp hr with hr | hr
  ·obtain ⟨r,q1,q2,q3⟩:=h2 r hr
   exact ⟨r,List.mem_cons_of_mem _ (List.mem_append_left _ q1),q2,q3⟩
  ·exact ⟨r,List.mem_cons_of_mem _ (List.mem_append_right _ hr),rfl,fun _ _ h=>h⟩
theorem blockKind_of (F : FEnv env ln cn ca gn) : env.blockKind = .function:=by unfold Env.blockKind; rw [F.kind]; rfl
theorem swL {elt : Expr} {gens : List Comprehension} {line i : Nat} (F : FEnv env ln cn ca gn) (h : ln[i]? = some id) (hl : (p.line == pos.line) = true) (hn : (sc.names.any fun (n,k)=>n == id && (k == .local || k == .cell)) = false) : swapsWith (.ListComp elt gens sc pos) (some (.Name id p)) line env = pure true:=by
 have h1:=F.loc id (List.mem_of_getElem? h)
 have h2:=blockKind_of F
 show (pure (env.blockKind == .function && env.kindOf id == some .local && p.line == pos.line && !(sc.names.any fun (n,k)=>n == id && (k == .local || k == .cell))) : Sem Bool) = pure true
 rw [h1,h2,hl,hn]; rfl
theorem swC {elt : Expr} {gens : List Comprehension} {line i : Nat} (F : FEnv env ln cn ca gn) (h : cn[i]? = some id) : swapsWith (.ListComp elt gens sc pos) (some (.Name id p)) line env = pure false:=by
 have h1:=F.cel id (List.mem_of_getElem? h)
 have h2:=blockKind_of F
 show (pure (env.blockKind == .function && env.kindOf id == some .local && p.line == pos.line && !(sc.names.any fun (n,k)=>n == id && (k == .local || k == .cell))) : Sem Bool) = pure false
 rw [h1,h2]; rfl
theorem Ex.asgMap {elt t iter : Expr} {py spos : Pos} (f : α → β) (F₀ : FEnv env ln₀ cn₀ ca₀ gn₀) (cs : CSc sc ln cn fn gn) (hcl : CapOk env fn) (hi : EvIt G n env mu iter t T xs mu₁ []) (hz : xs.length ≤ sizeLine)
  (hb : ∀ cenv ca,CBlk env cenv ln cn fn gn ca → ∀ x ∈ xs,∃ rho ka,ka.length = ca.length ∧ As G n cenv (VS cenv.locals ln (blank ln.length) ca (blank ca.length) ++ mu₁) t T x (VS cenv.locals ln rho ca ka ++ mu₁) ∧ Ev G n cenv (VS cenv.locals ln rho ca ka ++ mu₁) elt U (f x) (VS cenv.locals ln rho ca ka ++ mu₁))
  (ha : As G n env mu₁ (.Name id py) (tList U) (xs.map f) mu₂) (k : Ex G n env mu₂ ss F)
  (hsw : swapsWith (.ListComp elt [⟨t,iter,[],0⟩] sc pos) (some (.Name id py)) spos.line env = pure true)
  (hset : ∀ x,foldedSetIterable iter env x = pure x:=by intro _; rfl) : Ex G n env mu (.Assign [.Name id py] (.ListComp elt [⟨t,iter,[],0⟩] sc pos) spos :: ss) F:=by
 refine Ex.next (ExS.assignComp (U:=U) (last:=[]) (fun _=>mu₁) (fun k=>(xs.take k).map f) F₀ cs hcl hi (by simp) (fun k hk=>by rw [List.length_map,List.length_take]; lia) (fun cenv ca B k x hx=>?_) (by rw [List.append_nil,List.take_length]; exact ha) hsw hset) k
 obtain ⟨rho,ka,h1,h2,h3⟩:=hb cenv ca B x (List.mem_of_getElem? hx)
 exact ⟨rho,ka,true,h1,h2,Tests.nil,fun _=>⟨f x,h3,by rw [take_snoc hx,List.map_append]; rfl⟩,fun h=>by cases h⟩
theorem Ex.asgSift {elt t iter c : Expr} {py spos : Pos} (q : α → Bool) (f : α → β) (F₀ : FEnv env ln₀ cn₀ ca₀ gn₀) (cs : CSc sc ln cn fn gn) (hcl : CapOk env fn) (hi : EvIt G n env mu iter t T xs mu₁ []) (hz : xs.length ≤ sizeLine)
  (hb : ∀ cenv ca,CBlk env cenv ln cn fn gn ca → ∀ x ∈ xs,∃ rho ka,ka.length = ca.length ∧ As G n cenv (VS cenv.locals ln (blank ln.length) ca (blank ca.length) ++ mu₁) t T x (VS cenv.locals ln rho ca ka ++ mu₁) ∧ Cond G n cenv (VS cenv.locals ln rho ca ka ++ mu₁) c (q x) (VS cenv.locals ln rho ca ka ++ mu₁) ∧
   (q x = true → Ev G n cenv (VS cenv.locals ln rho ca ka ++ mu₁) elt U (f x) (VS cenv.locals ln rho ca ka ++ mu₁)))
  (ha : As G n env mu₁ (.Name id py) (tList U) ((xs.filter q).map f) mu₂) (k : Ex G n env mu₂ ss F)
  (hsw : swapsWith (.ListComp elt [⟨t,iter,[c],0⟩] sc pos) (some (.Name id py)) spos.line env = pure true)
  (hset : ∀ x,foldedSetIterable iter env x = pure x:=by intro _; rfl) : Ex G n env mu (.Assign [.Name id py] (.ListComp elt [⟨t,iter,[c],0⟩] sc pos) spos :: ss) F:=by
 refine Ex.next (ExS.assignComp (U:=U) (last:=[]) (fun _=>mu₁) (fun k=>((xs.take k).filter q).map f) F₀ cs hcl hi (by simp) (fun k hk=>by
  rw [List.length_map]
  refine Nat.le_trans (List.length_filter_le _ _) ?_
  rw [List.length_take]; lia) (fun cenv ca B k x hx=>?_) (by rw [List.append_nil,List.take_length]; exact ha) hsw hset) k
 obtain ⟨rho,ka,h1,h2,h3,h4⟩:=hb cenv ca B x (List.mem_of_getElem? hx)
 refine ⟨rho,ka,q x,h1,h2,Tests.one h3,fun hp=>⟨f x,h4 hp,?_⟩,fun hp=>⟨rfl,?_⟩⟩
 ·rw [take_snoc hx,List.filter_append,List.map_append]; simp [hp]
 ·rw [take_snoc hx,List.filter_append]; simp [hp]
noncomputable def fTo (G : Gl) (mu : List Res) : Flow → KH → List Res → Prop:=fun f _ mu'=>f = .next ∧ Wk G mu' mu
theorem Ex.endTo (h : Wk G mu mu₁) : Ex G n env mu [] (fTo G mu₁):=Ex.nil fun K=>⟨rfl,h⟩
theorem Ex.forK {t iter : Expr} (J : Nat → List Res) (hi : EvIt G n env mu iter t T xs (J 0) []) (hb : ∀ (k : Nat) (x : α),xs[k]? = some x → ∃ mu₁,As G n env (J k) t T x mu₁ ∧ Ex G n env mu₁ body (fTo G (J (k + 1)))) (k : Ex G n env (J xs.length) ss F)
  (hs : ∀ x,foldedSetIterable iter env x = pure x:=by intro _; rfl) : Ex G n env mu (.For t iter body [] pos :: ss) F :=
 Ex.next (mu₁:=J xs.length) (ExS.for_ (F:=fNext (J xs.length)) (last:=[]) J hi (fun k x hx=>by
  obtain ⟨m,h1,h2⟩:=hb k x hx
  refine ⟨m,h1,h2.mono fun f K mu' ⟨e,h⟩=>?_⟩
  subst e; exact h) (fun K=>⟨rfl,by rw [List.append_nil]⟩) hs) k
theorem Ex.wk (h : Wk G mu mu₁) (k : Ex G n env mu₁ ss F) : Ex G n env mu ss F:=Ex.weaken h k
theorem make_turn {i : ι} {r : ι → Res} {V : List Res} {is : List ι} : (r i :: (V ++ (W ++ (is.map r ++ R)))).Perm (V ++ (W ++ ((is ++ [i]).map r ++ R))):=by
 rw [List.map_append,List.map_cons,List.map_nil]
 have h : ∀ (A : List Res),(r i :: (A ++ R)).Perm (A ++ [r i] ++ R):=fun A=>by
  rw [List.append_assoc]; exact List.perm_middle.symm
 have:=h (V ++ (W ++ is.map r))
 simpa [List.append_assoc] using this
theorem comp_make {elt t iter : Expr} (r : ι → Res) (g : α → ι → β) (hb : ∀ cenv ca,CBlk env cenv ln cn fn gn ca → ∀ x ∈ xs,∀ R',∃ rho ka,ka.length = ca.length ∧ As G n cenv (VS cenv.locals ln (blank ln.length) ca (blank ca.length) ++ (W ++ R')) t T x (VS cenv.locals ln rho ca ka ++ (W ++ R')) ∧ EvX G n cenv (VS cenv.locals ln rho ca ka ++ (W ++ R')) elt (fun K v mu'=>∃ i,mu' = r i :: (VS cenv.locals ln rho ca ka ++ (W ++ R')) ∧ U.rel K v (g x i))) :
  ∀ cenv ca,CBlk env cenv ln cn fn gn ca → ∀ (k : Nat) (x : α) (J : List Res) (O : List β),xs[k]? = some x → (fun k J O=>∃ is : List ι,is.length = k ∧ J = W ++ (is.map r ++ R) ∧ O = List.zipWith g (xs.take k) is) k J O → TurnX G n cenv ln ca t elt [] T x U J O ((fun k J O=>∃ is : List ι,is.length = k ∧ J = W ++ (is.map r ++ R) ∧ O = List.zipWith g (xs.take k) is) (k + 1)):=fun cenv ca B k x J O hx ⟨is,h1,h2,h3⟩=>by
 subst h2 h3
 obtain ⟨rho,ka,q1,q2,q3⟩:=hb cenv ca B x (List.mem_of_getElem? hx) (is.map r ++ R)
 refine ⟨rho,ka,true,q1,q2,Tests.nil,fun _ K=>?_,fun h=>by cases h⟩
 refine Tri.permPost (q3 K) fun K' mu' v _ ⟨i,e1,hr⟩=>?_
 subst e1
 refine ⟨_,make_turn,W ++ ((is ++ [i]).map r ++ R),g x i,rfl,hr,is ++ [i],by rw [List.length_append,h1]; rfl,rfl,?_⟩
 rw [take_snoc hx,List.zipWith_append]
 ·rfl
 ·rw [List.length_take,h1]
  have:=(List.getElem?_eq_some_iff.mp hx).1
  lia
theorem EvX.compMake {elt t iter : Expr} (r : ι → Res) (g : α → ι → β) (F₀ : FEnv env ln₀ cn₀ ca₀ gn₀) (cs : CSc sc ln cn fn gn) (hcl : CapOk env fn) (hi : EvIt G n env mu iter t T xs (W ++ R) []) (hz : xs.length ≤ sizeLine)
  (hb : ∀ cenv ca,CBlk env cenv ln cn fn gn ca → ∀ x ∈ xs,∀ R',∃ rho ka,ka.length = ca.length ∧ As G n cenv (VS cenv.locals ln (blank ln.length) ca (blank ca.length) ++ (W ++ R')) t T x (VS cenv.locals ln rho ca ka ++ (W ++ R')) ∧ EvX G n cenv (VS cenv.locals ln rho ca ka ++ (W ++ R')) elt (fun K v mu'=>∃ i,mu' = r i :: (VS cenv.locals ln rho ca ka ++ (W ++ R')) ∧ U.rel K v (g x i)))
  (hset : ∀ x,foldedSetIterable iter env x = pure x:=by intro _; rfl) : EvX G n env mu (.ListComp elt [⟨t,iter,[],0⟩] sc pos) (fun K v mu'=>∃ is : {is : List ι // is.length = xs.length},mu' = W ++ (is.1.map r ++ R) ∧ (tList U).rel K v (List.zipWith g xs is.1)):=fun K =>
 (comp_X (T:=T) (U:=U) (W ++ R) (fun k J O=>∃ is : List ι,is.length = k ∧ J = W ++ (is.map r ++ R) ∧ O = List.zipWith g (xs.take k) is) F₀ cs hcl hi ⟨[],rfl,rfl,by simp⟩ (fun k J O hk ⟨is,h1,h2,h3⟩=>by
  subst h3
  rw [List.length_zipWith,h1]; lia) (comp_make (iter:=iter) r g hb) hset K).mono fun K' mu' v _ ⟨J,O,⟨is,h1,h2,h3⟩,e,hr⟩=>by
  subst h2 h3 e
  rw [List.take_length] at hr
  exact ⟨⟨is,h1⟩,List.append_nil _,hr⟩
end
section
variable {G : Gl} {n : Nat} {env : Env} {mu mu₁ mu₂ mu₃ nu rest W R last : List Res} {K : KH} {A : Around} {s : Shared} {α β γ : Type} {T : Ty α} {x : α} {U : Ty β} {y : β} {e l r t a b : Expr} {pos p lpos kp : Pos} {ln cn fn gn : List Str} {sc : Scope} {xs ys : List α} {es : List Expr} {ts : List TV} {ks : List (Str × TV)} {kws : List Keyword} {params : Arguments} {body : Expr} {i : Nat} {c P : Addr}
theorem Ev.callBK {f : Expr} {id : String} (hf : Ev G n env mu f tVal (.builtin id) mu₁) (ha : EvAK G n env mu₁ pos es kws ts ks mu₂) (hc : CalK G n (.builtin id) ts ks mu₂ T x mu₃)
  (hn : eval (.Call f es kws pos) env = (do callWith pos (← eval f env) [] (backTo pos (starEach es env)) (backToKw pos (keywordEach kws env))):=by rfl) : Ev G n env mu (.Call f es kws pos) T x mu₃:=fun K nu A s hA hs=>by
 rw [hn]
 refine wpAny_bind (hf.use hA hs fun K1 v s1 h1 o1 r1=>?_)
 have r1 : v = .builtin id:=r1
 subst r1
 obtain ⟨q1,q2⟩:=Bool.or_eq_false_iff.mp ha.1
 refine callWith_builtin_kwB q1 q2 (Tri.use (ha.2 (.builtin id) K1) hA o1 fun K2 mu2 a s2 h2 o2 ⟨e2,r2,r3⟩=>?_)
 subst e2
 exact Vl.use (hc K2 a.pos a.kw r2 r3) hA o2 fun K3 v s3 h3 o3 r3=>done (h1.trans (h2.trans h3)) o3 r3
theorem Ev.sortedLam {nm : Str} {kf : α → Int} (hG : TopF G) (hB : BmOk G) (hC : CodeOk G c P) (hcode : env.code = .ref c) (hge : env.globals = mainGlobals)
  (hf : Ev G (n + 2) env (W ++ R) l tVal (.builtin "sorted") (W ++ R)) (he : Ev G (n + 2) env (W ++ R) e (tList T) xs (W ++ R))
  (cs : CSc sc [nm] [] fn gn) (hcap : CapOk env fn) (hne : (clOf env sc.names []).isEmpty = false) (hi : R[i]? = some (rTab P lpos)) (hd : defaultsOf params env = ([],[])) (hkw : params.kwonlyargs = [])
  (hco : sc.isCoroutine = false) (hgen : sc.isGenerator = false) (hbind : ∀ v,bindF (env.qual ++ "<lambda>") params .none .none ⟨[v],[]⟩ = pure [(nm,v)]) (h64 : xs.length < 64)
  (hb : ∀ x ∈ xs,∀ lenv,FEnv lenv [nm] [] [] gn → Sees env lenv fn → Ev G n lenv (VS lenv.locals [nm] [some ⟨T,x⟩] [] [] ++ (W ++ R)) body tInt (kf x) (VS lenv.locals [nm] [some ⟨T,x⟩] [] [] ++ (W ++ R)))
  (hy : ∀ zs,zs.Perm xs → zs.Pairwise (fun p q=>kf p ≤ kf q) → zs = ys)
  (hst : starEach [e] env = (false,eval e env) :: starEach [] env:=by rfl)
  (hn : eval (.Call l [e] [⟨some "key", .Lambda params body sc lpos,kp⟩] pos) env = (do callWith pos (← eval l env) [] (backTo pos (starEach [e] env)) (backToKw pos (keywordEach [⟨some "key", .Lambda params body sc lpos,kp⟩] env))):=by rfl) :
  Ev G (n + 2) env (W ++ R) (.Call l [e] [⟨some "key", .Lambda params body sc lpos,kp⟩] pos) (tList T) ys (W ++ R):=by
 have hcap' : ∀ nm ∈ freeNames sc.names,∃ c,env.cells.lookup nm = some c:=fun nm hm=>hcap nm (cs.fre ▸ hm)
 refine Ev.callBK hf (EvA.kw1 (.cons he .nil hst) (Ev.lam hG hB hC hcode hge hcap' hne hi hd hkw) hst (by rw [hst]; rfl)) (fun K vs kvs hv hk=>?_) hn
 obtain ⟨v,r1,rfl,h1,hr⟩:=All2.cons_right hv
 have:=hr.nil_right; subst this
 obtain ⟨⟨k1,f⟩,r2,rfl,⟨e1,h2⟩,hr⟩:=All2.cons_right hk
 have:=hr.nil_right; subst this
 have e1 : k1 = ("key" : Str):=e1
 subst e1
 have h2':=h2
 obtain ⟨q,c',oc,vs,cq,t,pm,ct,rfl,_⟩:=h2'
 have key:=cal_sortedK (G:=G) (n:=n + 1) (K:=K) (mu:=W ++ R) (T:=T) (xs:=xs) (ys:=ys) (kf:=kf) (q:=q) h64 (U:=⟨fun K v _=>v = .ref q,fun _ h=>h⟩) (fun _ _ h=>h) (fun K' x v hle hx hr=>?_) hy h1 rfl
 ·exact key
 ·exact cal_lam (n:=n) (U:=tInt) (y:=kf x) hG cs hcap ((tLam _ params body sc _).mono hle h2) hco hgen hbind hr (fun lenv F S=>hb x hx lenv F S)
end
section
variable {G : Gl} {n : Nat} {env : Env} {mu mu₁ mu₂ W R : List Res} {α β γ : Type} {T : Ty α} {x : α} {U : Ty β} {y : β} {e : Expr} {pos p pa pb pc tp vp : Pos} {ln cn gn : List Str} {ca : List Addr} {a b c : Str} {i k k' : Nat} {q r s : Expr}
theorem fm_lt {α β : Type} {f : α → Option β} : ∀ {l : List α} {x : α},x ∈ l → f x = none → (l.filterMap f).length < l.length
 | y :: l,x,h,e=>by
  have h1:=List.length_filterMap_le f l
  rw [List.length_cons,List.filterMap_cons]
  rcases List.mem_cons.mp h with q | q
  ·subst q; rw [e]; exact Nat.lt_succ_of_le h1
  ·have:=fm_lt q e
   split
   ·lia
   ·rw [List.length_cons]; lia
theorem sw_cel {ts vs : List Expr} (hk : env.kindOf a = some .cell) (hm : Expr.Name a pa ∈ ts) : swappedStores [.Tuple ts k tp] (.Tuple vs k' vp) env = pure none:=by
 unfold swappedStores
 show (if _ then _ else _) = _
 split
 ·rfl
 show (if _ then _ else _) = _
 split
 ·rfl
 show (if _ then _ else _) = _
 refine if_pos ?_
 rw [Bool.or_eq_true]
 left
 refine bne_iff_ne.mpr (Nat.ne_of_lt (fm_lt hm ?_))
 show (if (env.kindOf a == some NameKind.local && _) = true then _ else _) = _
 rw [hk]; rfl
theorem sw2a (F : FEnv env ln cn ca gn) (h : cn[i]? = some a) : swappedStores [.Tuple [.Name a pa,.Name b pb] k tp] (.Tuple [q,r] k' vp) env = pure none:=sw_cel (F.cel a (List.mem_of_getElem? h)) (pa:=pa) List.mem_cons_self
theorem sw3b (F : FEnv env ln cn ca gn) (h : cn[i]? = some b) : swappedStores [.Tuple [.Name a pa,.Name b pb,.Name c pc] k tp] (.Tuple [q,r,s] k' vp) env = pure none:=sw_cel (F.cel b (List.mem_of_getElem? h)) (pa:=pb) (List.mem_cons_of_mem _ List.mem_cons_self)
end
noncomputable def igR (G : Gl) (gs : List Ig) (ks : List (List (Str × Int))) : List Res:=List.zipWith (fun g kv=>rDict G g.d kv) gs ks
section
variable {G : Gl} {n : Nat} {env : Env} {mu mu₁ mu₂ W R : List Res} {α β γ : Type} {T : Ty α} {x : α} {U : Ty β} {y : β} {e l r : Expr} {pos p : Pos}
theorem igR_get {gs : List Ig} {ks : List (List (Str × Int))} {i : Nat} {g : Ig} {kv : List (Str × Int)} (h1 : gs[i]? = some g) (h2 : ks[i]? = some kv) : (igR G gs ks)[i]? = some (rDict G g.d kv):=by
 unfold igR
 rw [List.getElem?_zipWith,h1,h2]
theorem igR_set : ∀ {gs : List Ig} {ks : List (List (Str × Int))} {i : Nat} {g : Ig} {kv : List (Str × Int)},gs[i]? = some g → (igR G gs ks).set i (rDict G g.d kv) = igR G gs (ks.set i kv)
 | [],_,_,_,_,h=>by simp at h
 | g' :: gs,[],i,g,kv,h=>by simp [igR]
 | g' :: gs,k :: ks,0,g,kv,h=>by
  simp only [List.getElem?_cons_zero,Option.some.injEq] at h
  subst h; rfl
 | g' :: gs,k :: ks,i + 1,g,kv,h=>by
  rw [List.getElem?_cons_succ] at h
  have:=igR_set (ks:=ks) (kv:=kv) h
  simp only [igR,List.zipWith_cons_cons,List.set_cons_succ] at this ⊢
  rw [this]
theorem igR_len {gs : List Ig} {ks : List (List (Str × Int))} (h : gs.length = ks.length) : (igR G gs ks).length = gs.length:=by
 unfold igR; rw [List.length_zipWith]; lia
theorem Ev.toMu (h : Ev G n env mu e T x mu₁) (hm : mu₁ = mu₂) : Ev G n env mu e T x mu₂:=hm ▸ h
theorem cmp_isNoneO {o : Option Str} : Cmp G .Is (tOpt tStr) o tNone () o.isNone:=cmp_isNone fun K v h=>by
 cases o with
 | none=>have h : v = .none:=h; subst h; rfl
 | some s=>obtain ⟨t,e⟩:=(h : tStr.rel K v s); subst e; rfl
theorem CalK.at2 {q q' : Res} {fv : Value} {W' : List Res} {ts : List TV} {ks : List (Str × TV)} {i : Nat} (h : CalK G n fv ts ks [q] T x [q']) (hi : R[i]? = some q) : CalK G n fv ts ks (W ++ (W' ++ R)) T x (W ++ (W' ++ R.set i q')):=by
 have:=h.at (W:=W ++ W') hi
 rwa [List.append_assoc,List.append_assoc] at this
theorem CalK.at3 {q q' : Res} {fv : Value} {W' W'' : List Res} {ts : List TV} {ks : List (Str × TV)} {i : Nat} (h : CalK G n fv ts ks [q] T x [q']) (hi : R[i]? = some q) : CalK G n fv ts ks (W ++ (W' ++ (W'' ++ R))) T x (W ++ (W' ++ (W'' ++ R.set i q'))):=by
 have:=h.at (W:=W ++ (W' ++ W'')) hi
 rwa [List.append_assoc,List.append_assoc,List.append_assoc,List.append_assoc] at this
theorem set_sameG {l : List α} {i : Nat} {q : α} (h : l[i]? = some q) : l.set i q = l:=by
 obtain ⟨h1,h2⟩:=List.getElem?_eq_some_iff.mp h
 rw [← h2,List.set_getElem_self]
theorem Ev.compS {elt t iter : Expr} {ifs : List Expr} {ln cn fn gn ln₀ cn₀ gn₀ : List Str} {ca₀ : List Addr} {sc : Scope} {xs : List α} (J : Nat → List Res) (O : Nat → List β) (F₀ : FEnv env ln₀ cn₀ ca₀ gn₀) (cs : CSc sc ln cn fn gn) (hcl : CapOk env fn)
  (hi : EvIt G n env mu iter t T xs mu₁ []) (e0 : J 0 = mu₁) (hO : O 0 = []) (hz : ∀ k,k ≤ xs.length → (O k).length ≤ sizeLine)
  (hb : ∀ cenv ca,CBlk env cenv ln cn fn gn ca → ∀ (k : Nat) (x : α),xs[k]? = some x → Turn G n cenv ln ca t elt ifs T x U (J k) (J (k + 1)) (O k) (O (k + 1)))
  (hset : ∀ x,foldedSetIterable iter env x = pure x:=by intro _; rfl) : Ev G n env mu (.ListComp elt [⟨t,iter,ifs,0⟩] sc pos) (tList U) (O xs.length) (J xs.length):=by
 have:=Ev.compM (pos:=pos) (last:=[]) J O F₀ cs hcl (by rw [e0]; exact hi) hO hz hb hset
 rwa [List.append_nil] at this
theorem pySlice_le {α : Type} (xs : List α) (a b : Option Int) : (pySlice xs a b).length ≤ xs.length:=by
 unfold pySlice
 first
 | (rw [List.length_take,List.length_drop]; lia)
 | (rw [List.length_drop,List.length_take]; lia)
end
section
variable {G : Gl} {n : Nat} {env : Env} {K : KH} {mu mu₁ mu₂ W R : List Res} {α β γ : Type} {T : Ty α} {x : α} {U : Ty β} {y : β} {e l r : Expr} {pos p : Pos} {ts : List TV} {ks : List (Str × TV)} {fv : Value}
theorem CalK.on (h : CalK G n fv ts ks mu T x mu₁) : CalK G n fv ts ks (W ++ (mu ++ R)) T x (W ++ (mu₁ ++ R)):=fun K vs kvs hv hk nu A s hA hs=>by
 have p1 : ∀ m : List Res,(W ++ (m ++ R) ++ nu).Perm (m ++ (W ++ (R ++ nu))):=fun m=>by
  have e : W ++ (m ++ R) ++ nu = W ++ m ++ (R ++ nu):=by simp [List.append_assoc]
  rw [e,← List.append_assoc m]
  exact List.perm_append_comm.append_right _
 refine Vl.use (nu:=W ++ (R ++ nu)) (h K vs kvs hv hk) hA (hs.perm (p1 mu)) fun K' v s' hle ho hr=>?_
 exact ⟨K',_,hle,ho.perm (p1 mu₁).symm,rfl,hr⟩
theorem Cal.on (h : Cal G n fv ts mu T x mu₁) : Cal G n fv ts (W ++ (mu ++ R)) T x (W ++ (mu₁ ++ R)):=fun K vs hv =>
 (CalK.on (ks:=[]) h.toK) K vs [] hv trivial
noncomputable def ig1 : List (Str × Int):=[("<string>", 1)]
theorem igR_new {g : β → Addr → Ig} (hg : ∀ b d,(g b d).d = d) : ∀ (xs : List β) (is : List Addr),is.length = xs.length → is.map (fun d=>rDict G d ig1) = igR G (List.zipWith g xs is) (List.replicate xs.length ig1)
 | [],[],_=>rfl
 | x :: xs,i :: is,h=>by
  have:=igR_new hg xs is (by simpa using h)
  rw [List.length_cons,List.replicate_succ,List.zipWith_cons_cons,List.map_cons]
  unfold igR at this ⊢
  rw [List.zipWith_cons_cons,← this,hg]
 | [],_ :: _,h=>by simp at h
 | _ :: _,[],h=>by simp at h
theorem CalK.at02 {q : Res} {W' : List Res} {i : Nat} (h : CalK G n fv ts ks [q] T x [q]) (hi : R[i]? = some q) : CalK G n fv ts ks (W ++ (W' ++ R)) T x (W ++ (W' ++ R)):=by
 have:=h.at2 (W:=W) (W':=W') hi
 rwa [set_same hi] at this
theorem CalK.at03 {q : Res} {W' W'' : List Res} {i : Nat} (h : CalK G n fv ts ks [q] T x [q]) (hi : R[i]? = some q) : CalK G n fv ts ks (W ++ (W' ++ (W'' ++ R))) T x (W ++ (W' ++ (W'' ++ R))):=by
 have:=h.at3 (W:=W) (W':=W') (W'':=W'') hi
 rwa [set_same hi] at this
end
section
variable {G : Gl} {n : Nat} {env : Env} {K : KH} {mu mu₁ mu₂ mu₃ mu₄ W R : List Res} {α β γ : Type} {T : Ty α} {x : α} {U : Ty β} {y : β} {e l r a b : Expr} {pos p : Pos} {ts : List TV} {ks : List (Str × TV)} {fv : Value} {ln cn gn : List Str} {ca : List Addr} {ss : List Stmt} {F : Flow → KH → List Res → Prop}
theorem Ev.ofSome (h : Ev G n env mu e (tOpt T) (some x) mu₁) : Ev G n env mu e T x mu₁:=fun K=>h K
theorem sw2l (F : FEnv env ln cn ca gn) {na nb : Str} {pa pb tp vp : Pos} {k k' i j : Nat} (h1 : ln[i]? = .some na) (h2 : ln[j]? = .some nb) (hab : na ≠ nb) (hl : (pb.line == pa.line) = true) (hs : ([a,b].any fun | .Starred ..=>true | _=>false) = false) (hf : [a,b].all (foldedForSure 8) = false) (hc : [a,b].all (constantsAlone 8) = false) :
  swappedStores [.Tuple [.Name na pa,.Name nb pb] k tp] (.Tuple [a,b] k' vp) env = pure (.some [na,nb]):=by
 have e1:=F.loc na (List.mem_of_getElem? h1)
 have e2:=F.loc nb (List.mem_of_getElem? h2)
 have e3:=F.kind
 have hne : (na == nb) = false:=beq_eq_false_iff_ne.mpr hab
 have hl' : pb.line = pa.line:=eq_of_beq hl
 have hk:=blockKind_of F
 have hn1 : [na,nb].eraseDups = [na,nb]:=by
  have : ∀ q : Str,[q].eraseDups = [q]:=fun q=>by rw [List.eraseDups_cons]; simp
  rw [List.eraseDups_cons]
  simp [hab.symm,this]
 have hp : (Expr.Name na pa).pos = pa:=rfl
 unfold swappedStores
 simp only [List.filterMap_cons,List.filterMap_nil,List.head?_cons,Option.map_some,Option.getD_some,hp,e1,e2,hl',beq_self_eq_true,Bool.and_self,if_true,hs,hf,hc,hk,hn1,List.length_cons,List.length_nil]
 refine (if_neg (by decide)).trans ?_
 refine (if_neg (fun h=>?_)).trans ?_
 ·exact absurd (hs.symm.trans h) (by decide)
 ·rfl
end
section
variable {G : Gl} {n : Nat} {env : Env} {K : KH} {mu mu₁ mu₂ W R : List Res} {α β : Type} {ι : Type} {T : Ty α} {x : α} {U : Ty β} {y : β} {a b : Expr} {pos : Pos} {ln cn gn : List Str} {ca : List Addr} {ss : List Stmt} {F : Flow → KH → List Res → Prop}
theorem Ex.asg2X {k k' : Nat} {na nb : Str} {pa pb tp vp : Pos} {M M₂ M₃ M₄ : ι → List Res} {Tv : ι → TV} (F₀ : FEnv env ln cn ca gn) (ha : EvX G n env mu a (fun K v mu'=>∃ i,mu' = M i ∧ (Tv i).T.rel K v (Tv i).x)) (hb : ∀ i,Ev G n env (M i) b U y (M₂ i))
  (sb : ∀ i,St1 G n env (M₂ i) nb U y (M₃ i)) (sa : ∀ i,St1 G n env (M₃ i) na (Tv i).T (Tv i).x (M₄ i)) {i j : Nat} (h1 : ln[i]? = .some na) (h2 : ln[j]? = .some nb) (hab : na ≠ nb) (kk : ∀ i,Ex G n env (M₄ i) ss F)
  (hst : starEach [a,b] env = [(false,eval a env),(false,eval b env)]:=by rfl)
  (hs0 : swapsWithSole [.Tuple [.Name na pa,.Name nb pb] k tp] (.Tuple [a,b] k' vp) pos.line env = pure false:=by rfl)
  (hl : (pb.line == pa.line) = true:=by rfl) (hs : ([a,b].any fun | .Starred ..=>true | _=>false) = false:=by rfl) (hf : [a,b].all (foldedForSure 8) = false:=by rfl) (hc : [a,b].all (constantsAlone 8) = false:=by rfl) :
  Ex G n env mu (.Assign [.Tuple [.Name na pa,.Name nb pb] k tp] (.Tuple [a,b] k' vp) pos :: ss) F :=
 Ex.nextX (M:=M₄) (fun K nu A s hA hs' =>
  Assign_Tuple_swapped (names:=[na,nb]) (Tri.use (EvX.pair ha (fun i=>Ev.toI (hb i)) hst K) hA hs' fun K1 mu1 v s1 h1 o1 ⟨q,e1,r1⟩=>by
   obtain ⟨q,u⟩:=q
   subst e1
   obtain ⟨t,v1,v2,m,rfl,hk,q1,q2⟩:=r1
   refine unpackItems_tuple (items:=([v1,v2] : List Value).toArray) hA.1 (isTuple_of (o1.k _ _ hk)) fun h' hx=>?_
   have o2 : Own G K1 (M₂ q ++ nu) { s1 with heap:=h' }:=o1.grow (s':={ s1 with heap:=h' }) (fun b o e=>hx b o (Nat.ne_of_lt (Heap.lt_size e)) e) rfl rfl
   show wpAny _ A (assignInOrder [bindName env nb,bindName env na] [v2,v1]) _ _ _
   refine wpAny_assignInOrder_more (bindName_ (Tri.use (sb q K1 v2 q2) hA o2 fun K2 mu' _ s2 h2 o3 e3=>?_))
   subst e3
   refine wpAny_assignInOrder_more (bindName_ (Tri.use (sa q K2 v1 ((Tv q).T.mono h2 q1)) hA o3 fun K3 mu'' _ s3 h3 o4 e4=>wpAny_assignInOrder_none ?_))
   subst e4
   exact ⟨K3,_,h1.trans (h2.trans h3),o4,rfl,q,rfl⟩) hs0 (sw2l F₀ h1 h2 hab hl hs hf hc)) kk
end
theorem ex12 {l : List Addr} (h : l.length = 12) : ∃ c0 c1 c2 c3 c4 c5 c6 c7 c8 c9 c10 c11,l = [c0,c1,c2,c3,c4,c5,c6,c7,c8,c9,c10,c11]:=⟨_,_,_,_,_,_,_,_,_,_,_,_,(listD 0 h).symm⟩
noncomputable def tQuad {α β γ δ : Type} (T : Ty α) (U : Ty β) (V : Ty γ) (X : Ty δ) : Ty (α × β × γ × δ):=⟨fun K v p=>∃ a v1 v2 v3 v4 n,v = .ref a ∧ K a = some (tupO [v1,v2,v3,v4] n) ∧ T.rel K v1 p.1 ∧ U.rel K v2 p.2.1 ∧ V.rel K v3 p.2.2.1 ∧ X.rel K v4 p.2.2.2,fun hle h=>by
 obtain ⟨a,v1,v2,v3,v4,n,rfl,hk,h1,h2,h3,h4⟩:=h
 exact ⟨a,v1,v2,v3,v4,n,rfl,hle _ _ hk,T.mono hle h1,U.mono hle h2,V.mono hle h3,X.mono hle h4⟩⟩
noncomputable def maxI (l : List Int) : Int:=l.foldl max (l.headD 0)
theorem maxI_fold : ∀ (l : List Int) (a : Int),(l.foldl max a = a ∨ l.foldl max a ∈ l) ∧ a ≤ l.foldl max a ∧ ∀ x ∈ l,x ≤ l.foldl max a
 | [],a=>⟨.inl rfl,Int.le_refl _,fun x h=>nomatch h⟩
 | b :: l,a=>by
  obtain ⟨h1,h2,h3⟩:=maxI_fold l (max a b)
  rw [List.foldl_cons]
  refine ⟨?_,by lia,fun x hx=>?_⟩
  ·rcases h1 with h1 | h1
   ·rcases Int.le_total a b with q | q
    ·right; rw [h1,Int.max_eq_right q]; exact List.mem_cons_self
    ·left; rw [h1,Int.max_eq_left q]
   ·exact .inr (List.mem_cons_of_mem _ h1)
  ·rcases List.mem_cons.mp hx with rfl | hx
   ·lia
   ·exact h3 x hx
theorem maxI_mem {l : List Int} (h : 0 < l.length) : maxI l ∈ l:=by
 match l,h with
 | b :: l,_ =>
  rcases (maxI_fold (b :: l) b).1 with q | q
  ·have e : maxI (b :: l) = b:=q
   rw [e]; exact List.mem_cons_self
  ·exact q
theorem maxI_le {l : List Int} : ∀ x ∈ l,x ≤ maxI l:=(maxI_fold l _).2.2
section
variable {G : Gl} {n : Nat} {env : Env} {K : KH} {mu mu₁ mu₂ mu₃ mu₄ nu W R : List Res} {α β γ δ : Type} {ι κ : Type} {T : Ty α} {x : α} {U : Ty β} {y : β} {V : Ty γ} {z : γ} {X : Ty δ} {w : δ} {a b c d : Expr} {pos : Pos} {ln cn gn : List Str} {ca : List Addr} {s : Shared}
theorem cal_max {ns : List Int} (h : 0 < ns.length) : Cal G n (.builtin "max") [⟨tList tInt,ns⟩] mu tInt (maxI ns) mu:=cal_maxL (maxI_mem h) maxI_le
theorem done_quad {K₀ : KH} {v1 v2 v3 v4 : Value} (hle : KLe K₀ K) (ho : Own G K (mu ++ nu) s) (h1 : T.rel K v1 x) (h2 : U.rel K v2 y) (h3 : V.rel K v3 z) (h4 : X.rel K v4 w) :
  ∃ K' mu',KLe K₀ K' ∧ Own G K' (mu' ++ nu) { s with heap:=s.heap.push { cls:=.type "tuple", data:=.seq ([v1,v2,v3,v4] : List Value).toArray } } ∧ mu' = mu ∧ (tQuad T U V X).rel K' (.ref s.heap.objs.size) (x,y,z,w) :=
 have hk:=kput_le (K:=K) (o:=tupO [v1,v2,v3,v4] 0) ho.fresh
 ⟨kput K s.heap.objs.size (tupO [v1,v2,v3,v4] 0),mu,hle.trans hk,ho.push (tupO [v1,v2,v3,v4] 0),rfl,_,v1,v2,v3,v4,0,rfl,kput_self ..,T.mono hk h1,U.mono hk h2,V.mono hk h3,X.mono hk h4⟩
theorem As.quad {k : Nat} {q : α × β × γ × δ} (ha : As G n env mu a T q.1 mu₁) (hb : As G n env mu₁ b U q.2.1 mu₂) (hc : As G n env mu₂ c V q.2.2.1 mu₃) (hd : As G n env mu₃ d X q.2.2.2 mu₄) (hst : assignEach [a,b,c,d] env = [(false,assign a env),(false,assign b env),(false,assign c env),(false,assign d env)]:=by rfl) : As G n env mu (.Tuple [a,b,c,d] k pos) (tQuad T U V X) q mu₄:=fun K v hr nu A s hA hs=>by
 obtain ⟨t,v1,v2,v3,v4,m,rfl,hk,h1,h2,h3,h4⟩:=hr
 refine wpAny_assign_Tuple hA.1 (isTuple_of (hs.k _ _ hk)) (by rw [hst]; rfl) (by rw [hst]; rfl) fun h' hx=>?_
 have o1 : Own G K (mu ++ nu) { s with heap:=h' }:=hs.grow (s':={ s with heap:=h' }) (fun b o e=>hx b o (Nat.ne_of_lt (Heap.lt_size e)) e) rfl rfl
 rw [hst]
 show wpAny _ A (assignInOrder [assign a env,assign b env,assign c env,assign d env] [v1,v2,v3,v4]) _ _ _
 refine wpAny_assignInOrder_more (ha.use h1 hA o1 fun K1 s1 q1 o2=>?_)
 refine wpAny_assignInOrder_more (hb.use (U.mono q1 h2) hA o2 fun K2 s2 q2 o3=>?_)
 refine wpAny_assignInOrder_more (hc.use (V.mono (q1.trans q2) h3) hA o3 fun K3 s3 q3 o4=>?_)
 refine wpAny_assignInOrder_more (hd.use (X.mono (q1.trans (q2.trans q3)) h4) hA o4 fun K4 s4 q4 o5=>wpAny_assignInOrder_none ?_)
 exact ⟨K4,_,q1.trans (q2.trans (q3.trans q4)),o5,rfl⟩
theorem EvX.quad {k : Nat} {r : Addr → Res} {T : Ty Addr} (h : ∀ (e : Expr) (W R : List Res),e ∈ [a,b,c,d] → EvX G n env (W ++ R) e (fun K v mu'=>∃ i,mu' = W ++ (r i :: R) ∧ T.rel K v i))
  (hst : starEach [a,b,c,d] env = [(false,eval a env),(false,eval b env),(false,eval c env),(false,eval d env)]:=by rfl) :
  EvX G n env (W ++ R) (.Tuple [a,b,c,d] k pos) (fun K v mu'=>∃ q : Addr × Addr × Addr × Addr,mu' = W ++ (r q.2.2.2 :: r q.2.2.1 :: r q.2.1 :: r q.1 :: R) ∧ (tQuad T T T T).rel K v q):=fun K nu A s hA hs=>by
 refine wpAny_Tuple_spliced ?_
 have : backTo pos (starEach [a,b,c,d] env) = [(false,eval a env),(false,eval b env),(false,eval c env),(false,eval d env)]:=by rw [hst]; rfl
 rw [this]
 refine Calls.spliced_cons (Tri.use (h a W R (by simp) K) hA hs fun K1 mu1 v1 s1 h1 o1 ⟨i1,e1,r1⟩=>?_)
 subst e1
 refine Calls.spliced_cons (Tri.use (h b W _ (by simp) K1) hA o1 fun K2 mu2 v2 s2 h2 o2 ⟨i2,e2,r2⟩=>?_)
 subst e2
 refine Calls.spliced_cons (Tri.use (h c W _ (by simp) K2) hA o2 fun K3 mu3 v3 s3 h3 o3 ⟨i3,e3,r3⟩=>?_)
 subst e3
 refine Calls.spliced_cons (Tri.use (h d W _ (by simp) K3) hA o3 fun K4 mu4 v4 s4 h4 o4 ⟨i4,e4,r4⟩=>Calls.spliced_nil ⟨by show _ ≤ 2 ^ 24; simp,?_⟩)
 subst e4
 obtain ⟨K',mu',q1,q2,q3,q4⟩:=done_quad (h1.trans (h2.trans (h3.trans h4))) o4 (T.mono (h2.trans (h3.trans h4)) r1) (T.mono (h3.trans h4) r2) (T.mono h4 r3) r4
 exact ⟨K',mu',q1,q2,(i1,i2,i3,i4),q3,q4⟩
theorem sw4d {na nb nc nd : Str} {pa pb pc pd tp vp : Pos} {k k' i : Nat} {q r t u : Expr} (F : FEnv env ln cn ca gn) (h : cn[i]? = some nd) : swappedStores [.Tuple [.Name na pa,.Name nb pb,.Name nc pc,.Name nd pd] k tp] (.Tuple [q,r,t,u] k' vp) env = pure none:=rfl
theorem perm_rev4 {a b c d : Res} {A B C : List Res} : (W ++ (d :: c :: b :: a :: (B ++ (A ++ C)))).Perm (W ++ (a :: b :: c :: d :: (A ++ (B ++ C)))):=by
 refine List.Perm.append_left W ?_
 have h1 : ([d,c,b,a] : List Res).Perm [a,b,c,d]:=List.reverse_perm [a,b,c,d]
 have h2 : (B ++ (A ++ C)).Perm (A ++ (B ++ C)):=by
  rw [← List.append_assoc,← List.append_assoc]
  exact List.perm_append_comm.append_right C
 exact h1.append h2
end
local macro_rules | `(tactic| walk_at "sc")=>`(tactic| first | assumption | lia | (simp only [sizeLine_nat,intRange_len,List.length_map,List.length_append,List.length_cons,List.length_nil,List.length_drop,List.length_take,mem_intRange] at *; lia))
section
variable {G : Gl} {n : Nat} {mu : List Res}
noncomputable def lawCall (place mark : Int) : Str:=(Txt.join ("" : Str) (List.map (fun x1 : Int=>(Txt.item ("oO" : Str) ((mark / ((2 : Int) ^ Int.toNat x1)) % (2 : Int)))) (intRange 0 (place + (1 : Int)))))
theorem lc_join {place mark : Int} (h1 : place ≤ 25) : ((List.map (fun x1 : Int=>(Txt.item ("oO" : Str) ((mark / ((2 : Int) ^ Int.toNat x1)) % (2 : Int)))) (intRange 0 (place + (1 : Int)))).map (·.length)).sum + (List.map (fun x1 : Int=>(Txt.item ("oO" : Str) ((mark / ((2 : Int) ^ Int.toNat x1)) % (2 : Int)))) (intRange 0 (place + (1 : Int)))).length * ("" : Str).length ≤ 16777216 :=
 join_le (b:=1) (c:=26) (fun x hx=>by obtain ⟨k,_,rfl⟩:=List.mem_map.mp hx; exact Nat.le_refl _) (by rw [List.length_map,intRange_len]; lia) (by decide +kernel)
theorem b_law_call (a b : Value) : bindArgs fd_law_call ⟨[a,b],[]⟩ = pure [(("place" : Str),a),(("mark" : Str),b)]:=by rw [bindF_eq]; kernel_rfl
theorem cal_law_call (hG : TopOk G) {place mark : Int} (h0 : 0 ≤ place) (h1' : place ≤ 25) : Cal G (n + 1) (.ref 281) [⟨tInt,place⟩,⟨tInt,mark⟩] mu tStr (lawCall place mark) mu:=by
 refine Cal.func (rho:=[some ⟨tInt,place⟩]) (ka:=[some ⟨tInt,mark⟩]) (ps:=[("place", ⟨tInt,place⟩),("mark", ⟨tInt,mark⟩)]) (mu₁:=mu) (ok_law_call hG) (fun K vs hv=>?_) (fun env ca F hl=>?_) (fun env ca F hl _ _=>?_)
 ·obtain ⟨a,r,rfl,ha,hr⟩:=All2.cons_right hv
  obtain ⟨b,r',rfl,hb,hr'⟩:=All2.cons_right hr
  have:=hr'.nil_right; subst this
  rw [b_law_call]
  exact Tri.pure ⟨rfl,⟨rfl,ha⟩,⟨rfl,hb⟩,trivial⟩
 ·obtain ⟨c0,rfl⟩:=ex1 hl
  next=>exact (.cons (.loc F (i:=0) rfl (lb rfl)) (.cons (.cel F (i:=0) rfl rfl (lb rfl)) .nil))
 ·obtain ⟨c0,rfl⟩:=ex1 hl
  next =>
   refine Ex.one (fOut.ret (.join .strC (.map (T:=tInt) (U:=tStr) (fun x1 : Int=>(Txt.item ("oO" : Str) ((mark / ((2 : Int) ^ Int.toNat x1)) % (2 : Int)))) F (csc_of (ln:=["k"]) (cn:=[]) (fn:=["mark"]) (gn:=[]) (by decide +kernel)) (.consF F (i:=0) rfl rfl .nil) (.range (.callT (.glb F (i:=0) rfl (g_range hG)) (.cons (.add (.var (F.var (i:=0) rfl rfl)) .intC) .nil) cal_range1) (by walk_at "sc") (by walk_at "sc") (by walk_at "sc") (by walk_at "sc")) (by walk_at "sc") (fun e1 a1 B1 x1 h1=>match a1,B1.len with | [],_=>⟨[some ⟨tInt,x1⟩],[],rfl,(As.loc B1.F (i:=0) rfl (lb rfl)),(.strIdx .strC (.fmod (.fdiv (.var (B1.S.cel (i:=0) rfl (F.celIn (i:=0) rfl rfl rfl) _).var) (.pow .intC (.var (B1.F.var (i:=0) rfl rfl)) (by walk_at "sc") (lc_bits (mem_intRange.mp h1) h1')) (lc_pos x1) (lc_small (mem_intRange.mp h1) h1')) .intC (by walk_at "sc")) (by walk_at "sc") (lc_two _) (lc_fits _))⟩)) (lc_join h1')) List.perm_append_comm)
theorem b_kind (a b : Value) : bindArgs fd_kind ⟨[a,b],[]⟩ = pure [(("name" : Str),a),(("x" : Str),b)]:=by rw [bindF_eq]; kernel_rfl
theorem cal_kind (hG : TopOk G) {nm x : Str} : Cal G (n + 1) (.ref 193) [⟨tStr,nm⟩,⟨tStr,x⟩] mu tStr ("" : Str) mu:=by
 refine CodX.toCal (CodX.dfR (rho:=[some ⟨tStr,nm⟩,some ⟨tStr,x⟩,none]) (ka:=[]) (ps:=[("name", ⟨tStr,nm⟩),("x", ⟨tStr,x⟩)]) (ok_kind hG) (bind2 b_kind) (fun env ca F hl=>?_) (fun env ca F hl _=>?_))
 ·obtain rfl:=ex0 hl
  next=>exact (.cons (.loc F (i:=0) rfl (lb rfl)) (.cons (.loc F (i:=1) rfl (lb rfl)) .nil))
 ·obtain rfl:=ex0 hl
  next =>
   exact Ex.next (.assign (.callT (.glb F (i:=0) rfl (g_type hG)) (.cons (.var (F.var (i:=1) rfl rfl)) .nil) cal_typeS) (As.loc F (i:=2) rfl (lb rfl))) (Ex.ifT (.ofCmp cmp_isT (.var (F.var (i:=2) rfl rfl)) (.glb F (i:=1) rfl (g_str hG))) (by decide +kernel) (Ex.ret .strC dropVS) noNext)
theorem b_fspath (a b : Value) : bindArgs fd_fspath ⟨[a,b],[]⟩ = pure [(("name" : Str),a),(("x" : Str),b)]:=by rw [bindF_eq]; kernel_rfl
theorem cal_fspath (hG : TopOk G) {nm x : Str} : Cal G (n + 2) (.ref 200) [⟨tStr,nm⟩,⟨tStr,x⟩] mu tStr x mu:=by
 refine CodX.toCal (CodX.dfR (rho:=[some ⟨tStr,nm⟩,some ⟨tStr,x⟩,none]) (ka:=[]) (ps:=[("name", ⟨tStr,nm⟩),("x", ⟨tStr,x⟩)]) (ok_fspath hG) (bind2 b_fspath) (fun env ca F hl=>?_) (fun env ca F hl _=>?_))
 ·obtain rfl:=ex0 hl
  next=>exact (.cons (.loc F (i:=0) rfl (lb rfl)) (.cons (.loc F (i:=1) rfl (lb rfl)) .nil))
 ·obtain rfl:=ex0 hl
  next =>
   exact Ex.next (.assign (.callU (.glb F (i:=0) rfl (g_kind hG)) (.cons (.var (F.var (i:=0) rfl rfl)) (.cons (.var (F.var (i:=1) rfl rfl)) .nil)) (ok_kind hG) (cal_kind hG)) (As.loc F (i:=2) rfl (lb rfl))) (Ex.ifF (.val (.var (F.var (i:=2) rfl rfl)) (tru_str (by decide +kernel))) (by decide +kernel) (Ex.ret (.var (F.var (i:=1) rfl rfl)) dropVS))
noncomputable def basenameP (p : Str) : Str:=Txt.slice p (some (Txt.rfind p "/" + 1)) none
theorem b_basename (a : Value) : bindArgs fd_basename ⟨[a],[]⟩ = pure [(("p" : Str),a)]:=by rw [bindF_eq]; kernel_rfl
theorem cal_basename (hG : TopOk G) {p : Str} (hp : p.length ≤ 1000) : Cal G (n + 3) (.ref 228) [⟨tStr,p⟩] mu tStr (basenameP p) mu:=by
 refine CodX.toCal (CodX.dfR (rho:=[some ⟨tStr,p⟩,none]) (ka:=[]) (ps:=[("p", ⟨tStr,p⟩)]) (ok_basename hG) (bind1 b_basename) (fun env ca F hl=>?_) (fun env ca F hl _=>?_))
 ·obtain rfl:=ex0 hl
  next=>exact (.cons (.loc F (i:=0) rfl (lb rfl)) .nil)
 ·obtain rfl:=ex0 hl
  next =>
   exact Ex.next (.assign (.callU (.glb F (i:=0) rfl (g_fspath hG)) (.cons .strC (.cons (.var (F.var (i:=0) rfl rfl)) .nil)) (ok_fspath hG) (cal_fspath hG)) (As.loc F (i:=0) rfl (lb rfl))) (Ex.next (.assign (.add (.str1 PySem.F.slot_str_rfind PySem.F.type_str_rfind (.var (F.var (i:=0) rfl rfl)) .strC cal_rfind) .intC) (As.loc F (i:=1) rfl (lb rfl))) (Ex.ret (.sliceS (.var (F.var (i:=0) rfl rfl)) (.some (.var (F.var (i:=1) rfl rfl))) .none (by walk_at "sc")) dropVS))
noncomputable def splitextP (p : Str) : Str × Str:=if Txt.rfind p "/" < Txt.rfind p "." then (Txt.slice p none (some (Txt.rfind p ".")),Txt.slice p (some (Txt.rfind p ".")) none) else (p,Txt.slice p none (some 0))
theorem b_splitext (a : Value) : bindArgs fd_splitext ⟨[a],[]⟩ = pure [(("p" : Str),a)]:=by rw [bindF_eq]; kernel_rfl
theorem cal_splitext (hG : TopOk G) {p : Str} (hp : p.length ≤ 1000) (hf : Txt.rfind p "/" < Txt.rfind p "." → Txt.rfind p "/" + 1 < Txt.rfind p "." ∧ Txt.slice p (some (Txt.rfind p "/" + 1)) (some (Txt.rfind p "/" + 1 + 1)) ≠ ".") : Cal G (n + 3) (.ref 207) [⟨tStr,p⟩] mu (tPair tStr tStr) (splitextP p) mu:=by
 refine CodX.toCal (CodX.dfR (rho:=[some ⟨tStr,p⟩,none,none,none,none,none]) (ka:=[]) (ps:=[("p", ⟨tStr,p⟩)]) (ok_splitext hG) (bind1 b_splitext) (fun env ca F hl=>?_) (fun env ca F hl _=>?_))
 ·obtain rfl:=ex0 hl
  next=>exact (.cons (.loc F (i:=0) rfl (lb rfl)) .nil)
 ·obtain rfl:=ex0 hl
  next =>
   refine Ex.next (.assign (.callU (.glb F (i:=0) rfl (g_fspath hG)) (.cons .strC (.cons (.var (F.var (i:=0) rfl rfl)) .nil)) (ok_fspath hG) (cal_fspath hG)) (As.loc F (i:=0) rfl (lb rfl))) (Ex.next (.assign .strC (As.loc F (i:=1) rfl (lb rfl))) (Ex.next (.assign .strC (As.loc F (i:=2) rfl (lb rfl))) (Ex.next (.assign (.str1 PySem.F.slot_str_rfind PySem.F.type_str_rfind (.var (F.var (i:=0) rfl rfl)) (.var (F.var (i:=1) rfl rfl)) cal_rfind) (As.loc F (i:=3) rfl (lb rfl))) (Ex.next (.assign (.str1 PySem.F.slot_str_rfind PySem.F.type_str_rfind (.var (F.var (i:=0) rfl rfl)) (.var (F.var (i:=2) rfl rfl)) cal_rfind) (As.loc F (i:=4) rfl (lb rfl))) (Ex.ifB (.ofCmp cmp_gtI (.var (F.var (i:=4) rfl rfl)) (.var (F.var (i:=3) rfl rfl))) (fun hc=>?_) (fun hc=>?_) noNext)))))
   ·have hc : Txt.rfind p "/" < Txt.rfind p "." := of_decide_eq_true hc
    obtain ⟨h1,h2⟩:=hf hc
    have e : splitextP p = (Txt.slice p none (some (Txt.rfind p ".")),Txt.slice p (some (Txt.rfind p ".")) none):=if_pos hc
    rw [e]
    refine Ex.next (.assign (.add (.var (F.var (i:=3) rfl rfl)) .intC) (As.loc F (i:=5) rfl (lb rfl))) (Ex.last (.while_ (fun k mu'=>k = 1 ∧ mu' = _) (fun _=>true) (fun k mu' ⟨hk,hm⟩=>?_) 1 ⟨rfl,rfl⟩) noNext)
    subst hm
    refine ⟨_,Cond.conv (.ofCmp cmp_ltI (.var (F.var (i:=5) rfl rfl)) (.var (F.var (i:=4) rfl rfl))) (decide_eq_true h1),fun _=>?_,fun h=>by cases h⟩
    refine Ex.mono (Ex.ifT (F:=rRet G (tPair tStr tStr) _ mu) (.ofCmp cmp_neS (.sliceS (.var (F.var (i:=0) rfl rfl)) (.some (.var (F.var (i:=5) rfl rfl))) (.some (.add (.var (F.var (i:=5) rfl rfl)) .intC)) (by walk_at "sc")) (.var (F.var (i:=2) rfl rfl))) (by simpa using h2) (Ex.ret (.pair (.sliceS (.var (F.var (i:=0) rfl rfl)) .none (.some (.var (F.var (i:=4) rfl rfl))) (by walk_at "sc")) (.sliceS (.var (F.var (i:=0) rfl rfl)) (.some (.var (F.var (i:=4) rfl rfl))) .none (by walk_at "sc"))) dropVS) noNext) fun f K mu' q=>?_
    cases f with
    | ret v=>exact q
    | next=>exact absurd q (noNext _ _)
    | cont=>obtain ⟨v,e,_⟩:=q; cases e
    | brk=>obtain ⟨v,e,_⟩:=q; cases e
   ·have hc : ¬ Txt.rfind p "/" < Txt.rfind p "." := of_decide_eq_false hc
    have e : splitextP p = (p,Txt.slice p none (some 0)):=if_neg hc
    rw [e]
    exact Ex.ret (.pair (.var (F.var (i:=0) rfl rfl)) (.sliceS (.var (F.var (i:=0) rfl rfl)) .none (.some .intC) (by walk_at "sc"))) dropVS
theorem b_modname (a : Value) : bindArgs fd_modname ⟨[a],[]⟩ = pure [(("path" : Str),a)]:=by rw [bindF_eq]; kernel_rfl
noncomputable def modnameP (p : Str) : Str:=(splitextP (basenameP p)).1
noncomputable def ModOk (p : Str) : Prop:=p.length ≤ 1000 ∧ (basenameP p).length ≤ 1000 ∧ (Txt.rfind (basenameP p) "/" < Txt.rfind (basenameP p) "." → Txt.rfind (basenameP p) "/" + 1 < Txt.rfind (basenameP p) "." ∧ Txt.slice (basenameP p) (some (Txt.rfind (basenameP p) "/" + 1)) (some (Txt.rfind (basenameP p) "/" + 1 + 1)) ≠ ".")
theorem cal_modname (hG : TopOk G) {p : Str} (hp : ModOk p) : Cal G (n + 4) (.ref 276) [⟨tStr,p⟩] mu tStr (modnameP p) mu:=by
 obtain ⟨hp1,hp2,hp3⟩:=hp
 refine CodX.toCal (CodX.dfR (rho:=[some ⟨tStr,p⟩,none,none,none]) (ka:=[]) (ps:=[("path", ⟨tStr,p⟩)]) (ok_modname hG) (bind1 b_modname) (fun env ca F hl=>?_) (fun env ca F hl _=>?_))
 ·obtain rfl:=ex0 hl
  next=>exact (.cons (.loc F (i:=0) rfl (lb rfl)) .nil)
 ·obtain rfl:=ex0 hl
  next =>
   refine Ex.next (.assign (.callU (.glb F (i:=0) rfl (g_basename hG)) (.cons (.var (F.var (i:=0) rfl rfl)) .nil) (ok_basename hG) (cal_basename hG (by walk_at "sc"))) (As.loc F (i:=1) rfl (lb rfl))) (Ex.next (.assign (.callU (.glb F (i:=1) rfl (g_splitext hG)) (.cons (.var (F.var (i:=1) rfl rfl)) .nil) (ok_splitext hG) (cal_splitext hG hp2 hp3)) (As.pair (As.loc F (i:=2) rfl (lb rfl)) (As.loc F (i:=3) rfl (lb rfl)))) (Ex.ret (.var (F.var (i:=2) rfl rfl)) dropVS))
end
local macro_rules | `(tactic| walk_at "forget")=>`(tactic| (repeat (first | exact trivial | refine And.intro (Or.inr rfl) ?_ | refine And.intro (Or.inl rfl) ?_)))
section
variable {G : Gl} {n : Nat} {mu : List Res}
theorem b_splitroot (a : Value) : bindArgs fd_splitroot ⟨[a],[]⟩ = pure [(("p" : Str),a)]:=by rw [bindF_eq]; kernel_rfl
theorem cal_splitroot (hG : TopOk G) {p : Str} (hp : p.length ≤ 1000) (h1 : Txt.slice p none (some 1) = "/") (h2 : Txt.slice p (some 1) (some 2) ≠ "/") : Cal G (n + 1) (.ref 221) [⟨tStr,p⟩] mu (tTrip tStr tStr tStr) ((("" : Str),("/" : Str),(Txt.slice p (some (1 : Int)) none))) mu:=by
 refine CodX.toCal (CodX.dfR (rho:=[some ⟨tStr,p⟩,none,none]) (ka:=[]) (ps:=[("p", ⟨tStr,p⟩)]) (ok_splitroot hG) (bind1 b_splitroot) (fun env ca F hl=>?_) (fun env ca F hl _=>?_))
 ·obtain rfl:=ex0 hl
  next=>exact (.cons (.loc F (i:=0) rfl (lb rfl)) .nil)
 ·obtain rfl:=ex0 hl
  next =>
   exact Ex.asg .strC (As.loc F (i:=1) rfl (lb rfl)) (Ex.asg .strC (As.loc F (i:=2) rfl (lb rfl)) (Ex.ifE (.ofCmp cmp_neS (.sliceS (.var (F.var (i:=0) rfl rfl)) .none (.some .intC) (by walk_at "sc")) (.var (F.var (i:=1) rfl rfl))) (by simpa using h1)
    (Ex.ifT (.boolOp (.or (.ofCmp cmp_neS (.sliceS (.var (F.var (i:=0) rfl rfl)) (.some .intC) (.some .intC) (by walk_at "sc")) (.var (F.var (i:=1) rfl rfl))) (fun h=>absurd h (by simpa using h2)) (fun _=>⟨rfl,rfl⟩))) rfl (Ex.ret (.trip (.var (F.var (i:=2) rfl rfl)) (.var (F.var (i:=1) rfl rfl)) (.sliceS (.var (F.var (i:=0) rfl rfl)) (.some .intC) .none (by walk_at "sc"))) dropVS) noNext) noNext))
structure NormOk (p : Str) : Prop where
 len : p.length ≤ 1000
 s1 : Txt.slice p none (some 1) = "/"
 s2 : Txt.slice p (some 1) (some 2) ≠ "/"
 comps : ∀ c ∈ Txt.split (Txt.slice p (some 1) none) "/", c ≠ ".." ∧ c.length ≤ 1000
 cl : (Txt.split (Txt.slice p (some 1) none) "/").length ≤ 1000
noncomputable def normComps (p : Str) : List Str:=Txt.split (Txt.slice p (some 1) none) "/"
noncomputable def normKeep (c : Str) : Bool:=(c.length != 0) && !decide (c = ".")
noncomputable def normP (p : Str) : Str:=("/" : Str) ++ Txt.join "/" ((normComps p).filter normKeep)
theorem filter_step {α : Type} (q : α → Bool) {xs : List α} {k : Nat} {x : α} (h : xs[k]? = some x) : (xs.take (k + 1)).filter q = (xs.take k).filter q ++ (if q x = true then [x] else []):=by
 rw [List.take_add_one,h,List.filter_append]
 cases hq : q x <;> simp [hq]
theorem b_normpath0 (a : Value) : bindArgs fd_normpath0 ⟨[a],[]⟩ = pure [(("path" : Str),a)]:=by rw [bindF_eq]; kernel_rfl
theorem txtjoin_le (a : Str) (l : List Str) : (Txt.join a l).length ≤ (l.map (·.length)).sum + l.length * a.length:=by rw [eq_of_beq (join_plain_closes a l)]; exact StrLaws.join_length_le a l
theorem slice_ne {p : Str} (h : Txt.slice p none (some 1) = "/") : (p.length != 0) = true:=by
 rw [bne_iff_ne]
 intro h0
 have : (Txt.slice p none (some 1)).length ≤ p.length:=Txt.slice_le p none (some 1)
 rw [h] at this
 have e : ("/" : Str).length = 1:=by decide +kernel
 lia
theorem cal_normpath0 (hG : TopOk G) {p : Str} (hp : NormOk p) : Cal G (n + 2) (.ref 235) [⟨tStr,p⟩] mu tStr (normP p) mu:=by
 have hlen:=hp.len
 have hcl:=hp.cl
 have hsl : (Txt.slice p (some 1) none).length ≤ 1000:=Nat.le_trans (Txt.slice_le p (some 1) none) hp.len
 refine CodX.toCal (CodX.dfR (rho:=[some ⟨tStr,p⟩,none,none,none,none,none,none,none,none]) (ka:=[]) (ps:=[("path", ⟨tStr,p⟩)]) (ok_normpath0 hG) (bind1 b_normpath0) (fun env ca F hl=>?_) (fun env ca F hl _=>?_))
 ·obtain rfl:=ex0 hl
  next=>exact (.cons (.loc F (i:=0) rfl (lb rfl)) .nil)
 ·obtain rfl:=ex0 hl
  next =>
   refine Ex.asg .strC (As.loc F (i:=1) rfl (lb rfl)) (Ex.asg .strC (As.loc F (i:=2) rfl (lb rfl)) (Ex.asg .strC (As.loc F (i:=3) rfl (lb rfl)) (Ex.ifF (.not (.val (.var (F.var (i:=0) rfl rfl)) (tru_str (by walk_at "sc")))) (by rw [slice_ne hp.s1]; rfl) ?_)))
   refine Ex.asg (T:=tTrip tStr tStr tStr) (x:=(("" : Str),("/" : Str),Txt.slice p (some 1) none)) (.callU (.glb F (i:=0) rfl (g_splitroot hG)) (.cons (.var (F.var (i:=0) rfl rfl)) .nil) (ok_splitroot hG) (cal_splitroot hG hp.len hp.s1 hp.s2)) (As.trip (As.loc F (i:=4) rfl (lb rfl)) (As.loc F (i:=5) rfl (lb rfl)) (As.loc F (i:=0) rfl (lb rfl))) ?_
   refine Ex.asg (.str1 PySem.F.slot_str_split PySem.F.type_str_split (.var (F.var (i:=0) rfl rfl)) (.var (F.var (i:=1) rfl rfl)) (cal_split (by decide +kernel) (by walk_at "sc"))) (As.loc F (i:=6) rfl (lb rfl)) ?_
   refine Ex.newList (T:=tStr) (xs:=[]) (i:=7) F rfl (lb rfl) .nil (by decide) fun a=>?_
   have hcs : (normComps p).length ≤ 1000:=hcl
   refine Ex.next (ExS.for_ (T:=tStr) (xs:=normComps p) (last:=[]) (mu:=_) (F:=fNext (VS env.locals ["path", "sep", "dot", "dotdot", "_", "initial_slashes", "comps", "new_comps", "comp"] [some ⟨tStr,Txt.slice p (some 1) none⟩,some ⟨tStr,("/" : Str)⟩,some ⟨tStr,("." : Str)⟩,some ⟨tStr,(".." : Str)⟩,some ⟨tStr,("" : Str)⟩,some ⟨tStr,("/" : Str)⟩,some ⟨tList tStr,normComps p⟩,some ⟨tVal,.ref a⟩,none] [] [] ++ (rList a tStr ((normComps p).filter normKeep) :: mu)))
    (fun k=>VS env.locals ["path", "sep", "dot", "dotdot", "_", "initial_slashes", "comps", "new_comps", "comp"] [some ⟨tStr,Txt.slice p (some 1) none⟩,some ⟨tStr,("/" : Str)⟩,some ⟨tStr,("." : Str)⟩,some ⟨tStr,(".." : Str)⟩,some ⟨tStr,("" : Str)⟩,some ⟨tStr,("/" : Str)⟩,some ⟨tList tStr,normComps p⟩,some ⟨tVal,.ref a⟩,none] [] [] ++ (rList a tStr (((normComps p).take k).filter normKeep) :: mu))
    (.list (.var (F.var (i:=6) rfl rfl))) (fun k c hk=>?_) (fun K=>⟨rfl,by simp⟩)) ?_
   ·obtain ⟨hc1,hc2⟩:=hp.comps c (List.mem_of_getElem? hk)
    refine ⟨_,(As.loc F (i:=8) rfl (lb rfl)),?_⟩
    have hst:=filter_step normKeep hk
    by_cases hc : normKeep c = true
    ·rw [if_pos hc] at hst
     have hc' : (c.length != 0) = true ∧ (!decide (c = ".")) = true:=by simpa only [normKeep,Bool.and_eq_true] using hc
     refine Ex.ifF (.boolOp (.orP (.not (.val (.var (F.var (i:=8) rfl rfl)) (tru_str (by walk_at "sc")))) (fun hc=>(.orP (.ofCmp cmp_eqS (.var (F.var (i:=8) rfl rfl)) (.var (F.var (i:=2) rfl rfl))) (fun hc=>.orNil))))) (by rw [hc'.1]; have:=hc'.2; revert this; cases decide (c = ".") <;> decide) ?_
     refine Ex.mono (F':=fNext _) (Ex.one (ExS.if_ (.boolOp (.or (.ofCmp cmp_neS (.var (F.var (i:=8) rfl rfl)) (.var (F.var (i:=3) rfl rfl))) (fun h=>absurd h (by simpa using hc1)) (fun _=>⟨rfl,rfl⟩))) (fun _=>Ex.app (i:=0) F (.var (F.var (i:=7) rfl rfl)) (.var (F.var (i:=8) rfl rfl)) rfl (Nat.le_trans (List.length_filter_le _ _) (by rw [List.length_take]; lia)) (Ex.nil fun K=>⟨rfl,rfl⟩)) (fun h=>by cases h))) fun f K mu' ⟨e1,e2⟩=>?_
     subst e1 e2
     show Wk G _ _
     rw [hst]
     exact Wk.forget (by walk_at "forget")
    ·have hc:=Bool.eq_false_iff.mpr hc
     rw [hc] at hst
     simp only [Bool.false_eq_true,if_false,List.append_nil] at hst
     refine Ex.mono (F':=fun f _ mu'=>f = .cont ∧ mu' = _) (Ex.last (ExS.if_ (.boolOp (.orP (.not (.val (.var (F.var (i:=8) rfl rfl)) (tru_str (by walk_at "sc")))) (fun hc=>(.orP (.ofCmp cmp_eqS (.var (F.var (i:=8) rfl rfl)) (.var (F.var (i:=2) rfl rfl))) (fun hc=>.orNil))))) (fun _=>Ex.one ExS.cont) (fun h=>absurd h ?_)) (by rintro _ _ ⟨h,_⟩; cases h)) (fun f K mu' ⟨e1,e2⟩=>?_)
     ·unfold normKeep at hc
      revert hc
      cases (c.length != 0) <;> cases decide (c = ".") <;> decide
     ·subst e1 e2
      show Wk G _ _
      rw [hst]
      exact Wk.forget (by walk_at "forget")
   ·refine Ex.ghost (WkG.frzL (i:=7) (j:=0) rfl rfl) ?_
    have hjl : ((normComps p).filter normKeep).length ≤ 1000:=Nat.le_trans (List.length_filter_le _ _) hcs
    have hj2 : (((normComps p).filter normKeep).map (·.length)).sum ≤ 1000 * 1000:=by
     refine Nat.le_trans (sum_len_le (b:=1000) _ fun a ha=>(hp.comps a (List.mem_filter.mp ha).1).2) ?_
     exact Nat.mul_le_mul_right _ hjl
    have hone : ("/" : Str).length = 1:=by decide +kernel
    have hj : (((normComps p).filter normKeep).map (·.length)).sum + ((normComps p).filter normKeep).length * ("/" : Str).length ≤ 2000000:=by rw [hone]; lia
    have hjn : (Txt.join "/" ((normComps p).filter normKeep)).length ≤ 2000000:=Nat.le_trans (txtjoin_le _ _) hj
    refine Ex.asg (.var (F.var (i:=7) rfl rfl)) (As.loc F (i:=6) rfl (lb rfl)) (Ex.asg (.cat (.var (F.var (i:=5) rfl rfl)) (.join (.var (F.var (i:=1) rfl rfl)) (.var (F.var (i:=6) rfl rfl)) (Nat.le_trans hj (by decide))) (by rw [hone,sizeLine_nat]; lia)) (As.loc F (i:=0) rfl (lb rfl)) ?_)
    have hne : (normP p).length ≠ 0:=by
     unfold normP; rw [Str.length_append,hone]; lia
    refine Ex.ret (Ev.conv (.or2S (.var (F.var (i:=0) rfl rfl)) (.var (F.var (i:=2) rfl rfl)) (by rw [sizeLine_nat]; show (normP p).length ≤ _; unfold normP; rw [Str.length_append,hone]; lia)) (if_neg hne)) dropVS
theorem b_c_path (a b c d e : Value) : bindArgs fd_c_path ⟨[a,b,c,d,e],[]⟩ = pure [(("name" : Str),a),(("cname" : Str),b),(("argname" : Str),c),(("args" : Str),d),(("kwargs" : Str),e)]:=by rw [bindF_eq]; kernel_rfl
theorem cal_c_path (hG : TopOk G) {nm cnm anm p : Str} : Cal G (n + 2) (.ref 214) [⟨tStr,nm⟩,⟨tStr,cnm⟩,⟨tStr,anm⟩,⟨tTup1 tStr,p⟩,⟨tDict0,()⟩] mu tStr p mu:=by
 refine CodX.toCal (CodX.dfR (rho:=[some ⟨tStr,nm⟩,some ⟨tStr,cnm⟩,some ⟨tStr,anm⟩,some ⟨(tTup1 tStr),p⟩,some ⟨tDict0,()⟩,none,none]) (ka:=[]) (ps:=[("name", ⟨tStr,nm⟩),("cname", ⟨tStr,cnm⟩),("argname", ⟨tStr,anm⟩),("args", ⟨(tTup1 tStr),p⟩),("kwargs", ⟨tDict0,()⟩)]) (ok_c_path hG) (fun K vs kvs hv hk=>?_) (fun env ca F hl=>?_) (fun env ca F hl _=>?_))
 ·have:=All2.nil_right hk; subst this
  obtain ⟨v1,r1,rfl,h1,hr⟩:=All2.cons_right hv
  obtain ⟨v2,r2,rfl,h2,hr⟩:=All2.cons_right hr
  obtain ⟨v3,r3,rfl,h3,hr⟩:=All2.cons_right hr
  obtain ⟨v4,r4,rfl,h4,hr⟩:=All2.cons_right hr
  obtain ⟨v5,r5,rfl,h5,hr⟩:=All2.cons_right hr
  have:=hr.nil_right; subst this
  rw [b_c_path]
  exact Tri.pure ⟨rfl,⟨rfl,h1⟩,⟨rfl,h2⟩,⟨rfl,h3⟩,⟨rfl,h4⟩,⟨rfl,h5⟩,trivial⟩
 ·obtain rfl:=ex0 hl
  next=>exact (.cons (.loc F (i:=0) rfl (lb rfl)) (.cons (.loc F (i:=1) rfl (lb rfl)) (.cons (.loc F (i:=2) rfl (lb rfl)) (.cons (.loc F (i:=3) rfl (lb rfl)) (.cons (.loc F (i:=4) rfl (lb rfl)) .nil)))))
 ·obtain rfl:=ex0 hl
  next =>
   refine Ex.next (mu₁:=VS env.locals ["name", "cname", "argname", "args", "kwargs", "x", "k"] [some ⟨tStr,nm⟩,some ⟨tStr,cnm⟩,some ⟨tStr,anm⟩,some ⟨(tTup1 tStr),p⟩,some ⟨tDict0,()⟩,some ⟨tStr,p⟩,none] [] [] ++ mu) (ExS.if_ (b:=true) (.boolOp (.andP (.ofCmp cmp_eqI (.callB (.glb F (i:=0) rfl (g_len hG)) (.cons (.var (F.var (i:=3) rfl rfl)) .nil) cal_lenT1) .intC) (fun _=>.andP (.not (.val (.var (F.var (i:=4) rfl rfl)) tru_dict0)) (fun _=>.andNil))))
    (fun _=>Ex.asg (.idxT1 (.var (F.var (i:=3) rfl rfl)) .intC) (As.loc F (i:=5) rfl (lb rfl)) (Ex.nil fun K=>⟨rfl,rfl⟩)) (fun h=>by cases h)) ?_
   exact Ex.asg (.callU (.glb F (i:=2) rfl (g_kind hG)) (.cons (.var (F.var (i:=0) rfl rfl)) (.cons (.var (F.var (i:=5) rfl rfl)) .nil)) (ok_kind hG) (cal_kind hG)) (As.loc F (i:=6) rfl (lb rfl)) (Ex.ifF (.val (.var (F.var (i:=6) rfl rfl)) (tru_str (by decide +kernel))) (by decide +kernel) (Ex.ret (.var (F.var (i:=5) rfl rfl)) dropVS))
theorem b_normpath (a : Value) : bindArgs fd_normpath ⟨[a],[]⟩ = (do let t ← newTuple [a]; let d ← alloc dict0; pure [(("args" : Str),t),(("kwargs" : Str),Value.ref d)]):=by rw [bindF_eq]; kernel_rfl
theorem cal_normpath (hG : TopOk G) {p : Str} (hp : NormOk p) : Cal G (n + 4) (.ref 242) [⟨tStr,p⟩] mu tStr (normP p) mu:=by
 refine CodX.toCal (CodX.dfR (rho:=[some ⟨(tTup1 tStr),p⟩,some ⟨tDict0,()⟩]) (ka:=[]) (ps:=[("args", ⟨(tTup1 tStr),p⟩),("kwargs", ⟨tDict0,()⟩)]) (ok_normpath hG) (fun K vs kvs hv hk=>?_) (fun env ca F hl=>?_) (fun env ca F hl _=>?_))
 ·have:=All2.nil_right hk; subst this
  obtain ⟨v1,r1,rfl,h1,hr⟩:=All2.cons_right hv
  have:=hr.nil_right; subst this
  rw [b_normpath]
  intro nu A s hA hs
  refine wpAny_bind (wpAny_newTuple ?_ (by show 1 ≤ sizeLine; decide))
  have o1:=hs.push (tupO [v1] 0)
  have hle:=kput_le (o:=tupO [v1] 0) hs.fresh
  refine wpAny_bind (wpAny_alloc ?_)
  have o2:=o1.push dict0
  have hle2:=kput_le (o:=dict0) o1.fresh
  refine wpAny_pure ⟨_,mu,hle.trans hle2,o2,rfl,⟨rfl,_,v1,0,rfl,hle2 _ _ (kput_self ..),tStr.mono (hle.trans hle2) h1⟩,⟨rfl,_,rfl,kput_self ..,?_⟩,trivial⟩
  obtain ⟨⟨o,e⟩,a,b⟩:=hG.t.sysm
  have hlt:=o1.klt (o1.old _ _ a b e)
  exact beq_eq_false_iff_ne.mpr (Nat.ne_of_gt hlt)
 ·obtain rfl:=ex0 hl
  next=>exact (.cons (.loc F (i:=0) rfl (lb rfl)) (.cons (.loc F (i:=1) rfl (lb rfl)) .nil))
 ·obtain rfl:=ex0 hl
  next =>
   exact Ex.ret (.callU (.glb F (i:=0) rfl (g_normpath0 hG)) (.cons (.callU (.glb F (i:=1) rfl (g_c_path hG)) (.cons .strC (.cons .strC (.cons .strC (.cons (.var (F.var (i:=0) rfl rfl)) (.cons (.var (F.var (i:=1) rfl rfl)) .nil))))) (ok_c_path hG) (cal_c_path hG)) .nil) (ok_normpath0 hG) (cal_normpath0 hG hp)) dropVS
end
section
variable {G : Gl} {n : Nat} {env : Env} {mu mu₁ : List Res} {id : Str} {p' pos : Pos} {g : Ig}
theorem ig_G (hG : TopOk G) : ClsG G 265:=⟨hG.t,by rw [hG.fr]; kernel_rfl,by rw [hG.fr]; kernel_rfl,by rw [hG.fr]; kernel_rfl⟩
theorem ig_S (hG : TopOk G) : ClsS G 265:=⟨ig_G hG,by rw [hG.fr]; kernel_rfl,by rw [hG.fr]; kernel_rfl⟩
theorem ig_K (hG : TopOk G) : ClsK G 265 255:=⟨hG.t,by rw [hG.fr]; kernel_rfl,by rw [hG.fr]; kernel_rfl,by rw [hG.fr]; kernel_rfl,by rw [hG.fr]; kernel_rfl⟩
theorem ig_names (hG : TopOk G) : ClsM G 265 "names" 262:=⟨by rw [hG.fr]; kernel_rfl,by rw [hG.fr]; kernel_rfl,by rw [hG.fr]; kernel_rfl⟩
theorem igNodup {x : Ig} : ((igAttrs G x).map (·.1)).Nodup:=by show (["_mods", "_dirs", "_ignore"] : List Str).Nodup; decide +kernel
theorem ev_mods (hG : TopOk G) (ho : Ev G n env mu (.Name id p') (tIg G 265) g mu₁) : Ev G n env mu (.Attribute (.Name id p') "_mods" pos) (tSet G) g.mods mu₁ :=
 Ev.attr (i:=0) (ig_G hG) ho (fun _ _ h=>h) rfl igNodup (by rw [hG.fr]; kernel_rfl) (fun K v ⟨a,es,ep,t,e,_⟩=>by subst e; rfl)
theorem ev_dirs (hG : TopOk G) (ho : Ev G n env mu (.Name id p') (tIg G 265) g mu₁) : Ev G n env mu (.Attribute (.Name id p') "_dirs" pos) tLS g.dirs mu₁ :=
 Ev.attr (i:=1) (ig_G hG) ho (fun _ _ h=>h) rfl igNodup (by rw [hG.fr]; kernel_rfl) (fun K v ⟨a,vs,n,e,_⟩=>by subst e; rfl)
theorem ev_ignore (hG : TopOk G) (ho : Ev G n env mu (.Name id p') (tIg G 265) g mu₁) : Ev G n env mu (.Attribute (.Name id p') "_ignore" pos) tVal (.ref g.d) mu₁ :=
 Ev.attr (i:=2) (ig_G hG) ho (fun _ _ h=>h) rfl igNodup (by rw [hG.fr]; kernel_rfl) (fun K v e=>by have e : v = .ref g.d:=e; subst e; rfl)
theorem b_ig_init (hG : TopOk G) (a b c : Value) : PySem.W.peek G.fr ⟨G.prog,G.w.params⟩ (bindArgs fd_Ignore_init ⟨[a,b],[]⟩) = some [(("self" : Str),a),(("modules" : Str),b),(("dirs" : Str),.none)]:=by rw [hG.fr,hG.pr]; kernel_rfl
theorem b_ig_init3 (hG : TopOk G) (a b c : Value) : PySem.W.peek G.fr ⟨G.prog,G.w.params⟩ (bindArgs fd_Ignore_init ⟨[a,b,c],[]⟩) = some [(("self" : Str),a),(("modules" : Str),b),(("dirs" : Str),c)]:=by rw [hG.fr,hG.pr]; kernel_rfl
set_option maxHeartbeats 2000000 in
theorem cod_ig (hG : TopOk G) {xa dx : Addr} {ts : List TV} {tm td : TV} {ms ds : List Str} (hm : OptL tm ms) (hd : OptL td ds) (hms : ms.Nodup) (hl : ms.length ≤ 1000) (hds : ∀ d ∈ ds,NormOk d) (hdl : ds.length ≤ 1000)
  (hb : ∀ K vs kvs,ARel K vs (⟨tObj 265 dx,xa⟩ :: ts) → BRel K kvs [] → Tri G (n + 5) K (rAttr dx [] :: mu) (bindArgs fd_Ignore_init ⟨vs,kvs⟩) fun K1 mu1 bs=>mu1 = rAttr dx [] :: mu ∧ BRel K1 bs [("self", ⟨tObj 265 dx,xa⟩),("modules", tm),("dirs", td)]) :
  CodX G (n + 5 + 1) (.ref 255) (⟨tObj 265 dx,xa⟩ :: ts) [] (rAttr dx [] :: mu) (fun K v mu'=>v = .none ∧ ∃ d,mu' = rAttr dx (igAttrs G ⟨ms,ds.map normP,d⟩) :: rDict G d [("<string>", 1)] :: mu):=by
 refine CodX.func (rho:=[some ⟨tObj 265 dx,xa⟩,some tm,some td]) (ka:=[]) (ok_Ignore_init hG) hb (fun env ca F hl=>?_) (fun env ca F hl=>?_)
 ·obtain rfl:=ex0 hl
  next=>exact (.cons (.loc F (i:=0) rfl (lb rfl)) (.cons (.loc F (i:=1) rfl (lb rfl)) (.cons (.loc F (i:=2) rfl (lb rfl)) .nil)))
 ·obtain rfl:=ex0 hl
  next =>
   refine Ex.next (ExS.setAttr (T:=tSet G) (x:=ms) (as:=[]) (W:=VS env.locals ["self", "modules", "dirs"] [some ⟨tObj 265 dx,xa⟩,some tm,some td] [] []) (R:=rAttr dx [] :: mu) (i:=0) (ig_S hG) ?m0 (.var (F.var (i:=0) rfl rfl)) rfl rfl (lb rfl) (by rw [hG.fr]; kernel_rfl)) ?_
   case m0 =>
    refine Cond.ifExp (.not (.val (.var (F.var (i:=1) rfl rfl)) (hm.tru (by lia)))) (fun hc=>?_) (fun hc=>?_)
    ·have e : ms = []:=by revert hc; cases ms <;> simp
     exact Ev.conv (.callT0 (.glb F (i:=0) rfl (g_set hG)) cal_set0) e.symm
    ·cases hm with
     | none=>exact absurd hc (by decide)
     | list xs=>exact .callT (.glb F (i:=0) rfl (g_set hG)) (.cons (.var (F.var (i:=1) rfl rfl)) .nil) (cal_set1 hms (by show ms.length + 1 < 4096; lia))
   refine Ex.next (ExS.setAttr (T:=tList tStr) (x:=ds.map normP) (as:=[("_mods", ⟨tSet G,ms⟩)]) (W:=VS env.locals ["self", "modules", "dirs"] [some ⟨tObj 265 dx,xa⟩,some tm,some td] [] []) (R:=rAttr dx [("_mods", ⟨tSet G,ms⟩)] :: mu) (i:=0) (ig_S hG) ?m1 (.var (F.var (i:=0) rfl rfl)) rfl rfl (lb rfl) (by rw [hG.fr]; kernel_rfl)) ?_
   case m1 =>
    refine Cond.ifExp (.not (.val (.var (F.var (i:=2) rfl rfl)) (hd.tru (by lia)))) (fun hc=>?_) (fun hc=>?_)
    ·have e : ds = []:=by revert hc; cases ds <;> simp
     subst e
     exact .listD .nil (by decide)
    ·cases hd with
     | none=>exact absurd hc (by decide)
     | list xs =>
      exact (.map (T:=tStr) (U:=tStr) (fun x1 : Str=>(normP x1)) F (csc_of (ln:=["d"]) (cn:=[]) (fn:=[]) (gn:=["normpath"]) (by decide +kernel)) .nil (.list (.var (F.var (i:=2) rfl rfl))) (by walk_at "sc") (fun e1 a1 B1 x1 h1=>match a1,B1.len with | [],_=>⟨[some ⟨tStr,x1⟩],[],rfl,(As.loc B1.F (i:=0) rfl (lb rfl)),(.callU (.glb B1.F (i:=0) rfl (g_normpath hG)) (.cons (.var (B1.F.var (i:=0) rfl rfl)) .nil) (ok_normpath hG) (cal_normpath hG (hds _ h1)))⟩))
   refine Ex.cons (F':=fun f _ mu'=>f = .next ∧ ∃ d,mu' = VS env.locals ["self", "modules", "dirs"] [some ⟨tObj 265 dx,xa⟩,some tm,some td] [] [] ++ (rDict G d [("<string>", 1)] :: rAttr dx (igAttrs G ⟨ms,ds.map normP,d⟩) :: mu)) (ExS.setAttrX (xa:=xa) (dx:=dx) (P:=fun _ w mu'=>∃ d,w = .ref d ∧ mu' = VS env.locals ["self", "modules", "dirs"] [some ⟨tObj 265 dx,xa⟩,some tm,some td] [] [] ++ rDict G d [("<string>", 1)] :: rAttr dx [("_mods", ⟨tSet G,ms⟩),("_dirs", ⟨tList tStr,ds.map normP⟩)] :: mu) (as:=[("_mods", ⟨tSet G,ms⟩),("_dirs", ⟨tList tStr,ds.map normP⟩)]) (ig_S hG) ?m2 ?m3 (by kernel_rfl) (lb rfl) (by rw [hG.fr]; kernel_rfl) (by kernel_rfl)) (fun f K mu' ⟨e1,d,e2⟩=>?m4)
   case m2=>exact EvX.dict1 (W:=VS env.locals ["self", "modules", "dirs"] [some ⟨tObj 265 dx,xa⟩,some tm,some td] [] []) (R:=rAttr dx [("_mods", ⟨tSet G,ms⟩),("_dirs", ⟨tList tStr,ds.map normP⟩)] :: mu) (a:="<string>") (j:=1) .strC .intC rfl
   case m3 =>
    rintro K v mu' ⟨d,e1,e2⟩
    subst e1 e2
    exact ⟨⟨tVal,.ref d⟩,VS env.locals ["self", "modules", "dirs"] [some ⟨tObj 265 dx,xa⟩,some tm,some td] [] [],rDict G d [("<string>", 1)] :: rAttr dx [("_mods", ⟨tSet G,ms⟩),("_dirs", ⟨tList tStr,ds.map normP⟩)] :: mu,1,rfl,rfl,.var (F.var (i:=0) rfl rfl),rfl,fun K=>⟨rfl,d,rfl⟩⟩
   case m4 =>
    subst e1 e2
    exact fOutP.end_ (mu₂:=rAttr dx (igAttrs G ⟨ms,ds.map normP,d⟩) :: rDict G d [("<string>", 1)] :: mu) (dropVS.trans (Wk.perm (List.Perm.swap ..))) (fun K=>⟨rfl,d,rfl⟩) K
theorem Ev.sepC {ln cn gn : List Str} {ca : List Addr} {i : Nat} (hG : TopOk G) (F : FEnv env ln cn ca gn) (hi : gn[i]? = some "sep") : Ev G n env mu (.Name "sep" pos) tStr ("/" : Str) mu:=fun K =>
 (Ev.glb F hi (g_sep hG) K).mono fun K' mu' v _ ⟨e1,e2⟩=>⟨e1,_,e2⟩
noncomputable def igAns (g : Ig) (f : Option Str) (m : Str) : Int :=
 if m ∈ g.mods then 1 else if g.mods.any (fun q=>Txt.startswith m (q ++ ".")) = true then 1 else
  match f with
  | none=>1
  | some f=>if g.dirs.any (fun d=>Txt.startswith f (d ++ "/")) = true then 1 else 0
noncomputable def igNames (g : Ig) (kvs : List (Str × Int)) (f : Option Str) (m : Str) : Int × List (Str × Int):=match atD kvs m with
 | some j=>(j,kvs)
 | none=>(igAns g f m,kvs ++ [(m,igAns g f m)])
inductive OptS : TV → Option Str → Prop
 | none : OptS ⟨tNone,()⟩ .none
 | str (x : Str) : OptS ⟨tStr,x⟩ (.some x)
theorem b_ig_names (a b c : Value) : bindArgs fd_Ignore_names ⟨[a,b,c],[]⟩ = pure [(("self" : Str),a),(("filename" : Str),b),(("modulename" : Str),c)]:=by rw [bindF_eq]; kernel_rfl
structure IgFit (g : Ig) (kvs : List (Str × Int)) : Prop where
 mods : ∀ q ∈ g.mods,q.length ≤ 1000
 dirs : ∀ q ∈ g.dirs,q.length ≤ 1000
 kvs : kvs.length ≤ 1000
set_option maxHeartbeats 2000000 in
theorem cod_names (hG : TopOk G) {kvs : List (Str × Int)} {m : Str} {f : Option Str} {tf : TV} (hf : OptS tf f) (hg : IgFit g kvs) :
  CodX G (n + 2) (.ref 262) [⟨tIg G 265,g⟩,tf,⟨tStr,m⟩] [] [rDict G g.d kvs] (fun K v mu'=>mu' = [rDict G g.d (igNames g kvs f m).2] ∧ tInt.rel K v (igNames g kvs f m).1):=by
 have hkl:=hg.kvs
 have hdot : ("." : Str).length = 1:=by decide +kernel
 have hsl : ("/" : Str).length = 1:=by decide +kernel
 refine CodX.dfR (rho:=[some ⟨tIg G 265,g⟩,some tf,some ⟨tStr,m⟩,none,none]) (ka:=[]) (ps:=[("self", ⟨tIg G 265,g⟩),("filename", tf),("modulename", ⟨tStr,m⟩)]) (ok_Ignore_names hG) (bind3 b_ig_names) (fun env ca F hl=>?_) (fun env ca F hl _=>?_)
 ·obtain rfl:=ex0 hl
  next=>exact (.cons (.loc F (i:=0) rfl (lb rfl)) (.cons (.loc F (i:=1) rfl (lb rfl)) (.cons (.loc F (i:=2) rfl (lb rfl)) .nil)))
 ·obtain rfl:=ex0 hl
  next =>
   cases hv : atD kvs m with
   | some j =>
    have e : igNames g kvs f m = (j,kvs):=by unfold igNames; rw [hv]
    rw [e]
    exact Ex.ifT (Cond.inDict (i:=0) hG.t (.var (F.var (i:=2) rfl rfl)) (ev_ignore hG (.var (F.var (i:=0) rfl rfl))) rfl) (by rw [hv]; rfl) (Ex.ret (.getD (i:=0) (ev_ignore hG (.var (F.var (i:=0) rfl rfl))) (.var (F.var (i:=2) rfl rfl)) rfl hv) dropVS) noNext
   | none =>
    have e : igNames g kvs f m = (igAns g f m,kvs ++ [(m,igAns g f m)]):=by unfold igNames; rw [hv]
    rw [e]
    refine Ex.ifF (Cond.inDict (i:=0) hG.t (.var (F.var (i:=2) rfl rfl)) (ev_ignore hG (.var (F.var (i:=0) rfl rfl))) rfl) (by rw [hv]; rfl) ?_
    refine Ex.ifB (.ofCmp cmp_inSet (.var (F.var (i:=2) rfl rfl)) (ev_mods hG (.var (F.var (i:=0) rfl rfl)))) (fun hc=>?_) (fun hc=>?_) noNext
    ·have ea : igAns g f m = 1:=if_pos (of_decide_eq_true hc)
     rw [ea]
     exact Ex.next (.setD (i:=0) .intC (ev_ignore hG (.var (F.var (i:=0) rfl rfl))) (.var (F.var (i:=2) rfl rfl)) rfl hv (by lia)) (Ex.ret .intC dropVS)
    have hnm : ¬ m ∈ g.mods:=of_decide_eq_false hc
    refine Ex.searchS (xs:=g.mods) (fun q=>Txt.startswith m (q ++ ".")) (ExS.searchS (T:=tStr) (last:=[]) (Ψ:=fun f K mu'=>rRet G tInt 1 [rDict G g.d (kvs ++ [(m,1)])] f K mu') (J:=VS env.locals ["self", "filename", "modulename", "mod", "d"] [some ⟨tIg G 265,g⟩,some tf,some ⟨tStr,m⟩,none,none] [] [] ++ [rDict G g.d kvs]) _ (Ev.toSetIt (ev_mods hG (.var (F.var (i:=0) rfl rfl))) (fun _ _=>rfl)) (fun x hx=>⟨_,(As.loc F (i:=3) rfl (lb rfl)),fun hq=>?_,fun hq=>?_⟩)) (fun h0=>?_) (fun v K mu' h0 hp=>?_)
    ·have hxl:=hg.mods x hx
     refine Ex.mono (F':=rRet G tInt 1 [rDict G g.d (kvs ++ [(m,1)])]) (Ex.ifT (.val (.str1 PySem.F.slot_str_startswith PySem.F.type_str_startswith (.var (F.var (i:=2) rfl rfl)) (.cat (.var (F.var (i:=3) rfl rfl)) .strC (by rw [hdot,sizeLine_nat]; lia)) cal_startswith) tru_bool) hq (Ex.next (.setD (i:=0) .intC (ev_ignore hG (.var (F.var (i:=0) rfl rfl))) (.var (F.var (i:=2) rfl rfl)) rfl hv (by lia)) (Ex.ret .intC dropVS)) noNext) fun f K mu' h=>?_
     obtain ⟨v,e,h1,h2⟩:=h
     exact ⟨v,e,v,e,h1,h2⟩
    ·have hxl:=hg.mods x hx
     exact Ex.ifF (.val (.str1 PySem.F.slot_str_startswith PySem.F.type_str_startswith (.var (F.var (i:=2) rfl rfl)) (.cat (.var (F.var (i:=3) rfl rfl)) .strC (by rw [hdot,sizeLine_nat]; lia)) cal_startswith) tru_bool) hq (Ex.nil fun K=>⟨rfl,Wk.forget (by walk_at "forget")⟩)
    ·rw [List.append_nil]
     cases hf with
     | none =>
      have ea : igAns g none m = 1:=by unfold igAns; rw [if_neg hnm,if_neg (by rw [h0]; decide)]
      rw [ea]
      exact Ex.ifT (.ofCmp (cmp_isNone (b:=true) (fun K v e=>by have e : v = .none:=e; subst e; rfl)) (.var (F.var (i:=1) rfl rfl)) .noneC) rfl (Ex.next (.setD (i:=0) .intC (ev_ignore hG (.var (F.var (i:=0) rfl rfl))) (.var (F.var (i:=2) rfl rfl)) rfl hv (by lia)) (Ex.ret .intC dropVS)) noNext
     | str fn =>
      refine Ex.ifF (.ofCmp (cmp_isNone (T:=tStr) (x:=fn) (b:=false) (fun K v ⟨t,e⟩=>by subst e; rfl)) (.var (F.var (i:=1) rfl rfl)) .noneC) rfl ?_
      have ea : igAns g (some fn) m = if g.dirs.any (fun d=>Txt.startswith fn (d ++ "/")) = true then 1 else 0:=by unfold igAns; rw [if_neg hnm,if_neg (by rw [h0]; decide)]
      refine Ex.searchL (xs:=g.dirs) (fun d=>Txt.startswith fn (d ++ "/")) (ExS.searchL (T:=tStr) (last:=[]) (Ψ:=fun _ f K mu'=>rRet G tInt 1 [rDict G g.d (kvs ++ [(m,1)])] f K mu') (J:=VS env.locals ["self", "filename", "modulename", "mod", "d"] [some ⟨tIg G 265,g⟩,some ⟨tStr,fn⟩,some ⟨tStr,m⟩,none,none] [] [] ++ [rDict G g.d kvs]) _ (.list (ev_dirs hG (.var (F.var (i:=0) rfl rfl)))) (fun x hx=>⟨_,(As.loc F (i:=4) rfl (lb rfl)),fun hq=>?_,fun hq=>?_⟩)) (fun h1=>?_) (fun x v K mu' h1 hp=>?_)
      ·have hxl:=hg.dirs x hx
       refine Ex.mono (F':=rRet G tInt 1 [rDict G g.d (kvs ++ [(m,1)])]) (Ex.ifT (.val (.str1 PySem.F.slot_str_startswith PySem.F.type_str_startswith (.var (F.var (i:=1) rfl rfl)) (.cat (.var (F.var (i:=4) rfl rfl)) (Ev.sepC hG F (i:=0) rfl) (by rw [hsl,sizeLine_nat]; lia)) cal_startswith) tru_bool) hq (Ex.next (.setD (i:=0) .intC (ev_ignore hG (.var (F.var (i:=0) rfl rfl))) (.var (F.var (i:=2) rfl rfl)) rfl hv (by lia)) (Ex.ret .intC dropVS)) noNext) fun f K mu' h=>?_
       obtain ⟨v,e,h1,h2⟩:=h
       exact ⟨v,e,v,e,h1,h2⟩
      ·have hxl:=hg.dirs x hx
       exact Ex.ifF (.val (.str1 PySem.F.slot_str_startswith PySem.F.type_str_startswith (.var (F.var (i:=1) rfl rfl)) (.cat (.var (F.var (i:=4) rfl rfl)) (Ev.sepC hG F (i:=0) rfl) (by rw [hsl,sizeLine_nat]; lia)) cal_startswith) tru_bool) hq (Ex.nil fun K=>⟨rfl,Wk.forget (by walk_at "forget")⟩)
      ·rw [List.append_nil]
       have h2 : g.dirs.any (fun d=>Txt.startswith fn (d ++ "/")) = false:=by
        rw [List.any_eq_false]; exact List.find?_eq_none.mp h1
       rw [h2] at ea
       rw [ea]
       exact Ex.next (.setD (i:=0) .intC (ev_ignore hG (.var (F.var (i:=0) rfl rfl))) (.var (F.var (i:=2) rfl rfl)) rfl hv (by lia)) (Ex.ret .intC dropVS)
      ·have h2 : g.dirs.any (fun d=>Txt.startswith fn (d ++ "/")) = true:=List.any_eq_true.mpr ⟨x,List.mem_of_find?_eq_some h1,List.find?_some (p:=fun d=>Txt.startswith fn (d ++ "/")) h1⟩
       rw [h2] at ea
       rw [ea]
       exact hp
    ·have ea : igAns g f m = 1:=by unfold igAns; rw [if_neg hnm,if_pos h0]
     rw [ea]
     exact hp
end
noncomputable def reN : Array Nat:=#[14,10,4,1,1,22,0,31,16,127,0,13,7,22,0,31,16,127,0,1]
noncomputable def reV : Array Nat:=#[14,14,4,1,1,9,4294966783,0,0,2147483648,0,0,0,0,0,13,11,9,4294966783,0,0,2147483648,0,0,0,0,0,1]
noncomputable def Clean (x : Str) : Prop:=∀ i,i < x.cps.size → x.cps.getD i 0 ∈ [46,79,82,111,114]
theorem re_ok (c : Nat) (h : c ∈ [46,79,82,111,114]) : (∀ seen,∃ seen',Sre.inSet reN c reN.size 5 true seen = .ok (false,seen')) ∧ (∀ seen,∃ seen',Sre.inSet reV c reV.size 5 true seen = .ok (false,seen')):=by
 simp only [List.mem_cons,List.not_mem_nil,or_false] at h
 rcases h with rfl | rfl | rfl | rfl | rfl <;> exact ⟨fun seen=>⟨_,by rfl⟩,fun seen=>⟨_,by rfl⟩⟩
theorem noN {x : Str} (h : Clean x) : NoHit reN x.cps:=fun i hi=>(re_ok _ (h i hi)).1
theorem noV {x : Str} (h : Clean x) : NoHit reV x.cps:=fun i hi=>(re_ok _ (h i hi)).2
section
variable {G : Gl} {n : Nat} {env : Env} {mu mu₁ mu₂ : List Res} {id : Str} {p' p2 pos q ap : Pos} {a : Addr} {ln cn gn : List Str} {ca : List Addr} {e : Expr}
theorem hd_G (hG : TopOk G) : ClsG G 182:=⟨hG.t,by rw [hG.fr]; kernel_rfl,by rw [hG.fr]; kernel_rfl,by rw [hG.fr]; kernel_rfl⟩
theorem hd_S (hG : TopOk G) : ClsS G 182:=⟨hd_G hG,by rw [hG.fr]; kernel_rfl,by rw [hG.fr]; kernel_rfl⟩
theorem hd_K (hG : TopOk G) : ClsK G 182 76:=⟨hG.t,by rw [hG.fr]; kernel_rfl,by rw [hG.fr]; kernel_rfl,by rw [hG.fr]; kernel_rfl,by rw [hG.fr]; kernel_rfl⟩
theorem hm_conv (hG : TopOk G) : ClsM G 182 "_convert_string_type" 83:=⟨by rw [hG.fr]; kernel_rfl,by rw [hG.fr]; kernel_rfl,by rw [hG.fr]; kernel_rfl⟩
theorem hm_get_all (hG : TopOk G) : ClsM G 182 "get_all" 121:=⟨by rw [hG.fr]; kernel_rfl,by rw [hG.fr]; kernel_rfl,by rw [hG.fr]; kernel_rfl⟩
theorem hm_get (hG : TopOk G) : ClsM G 182 "get" 129:=⟨by rw [hG.fr]; kernel_rfl,by rw [hG.fr]; kernel_rfl,by rw [hG.fr]; kernel_rfl⟩
theorem hm_keys (hG : TopOk G) : ClsM G 182 "keys" 134:=⟨by rw [hG.fr]; kernel_rfl,by rw [hG.fr]; kernel_rfl,by rw [hG.fr]; kernel_rfl⟩
theorem hm_values (hG : TopOk G) : ClsM G 182 "values" 139:=⟨by rw [hG.fr]; kernel_rfl,by rw [hG.fr]; kernel_rfl,by rw [hG.fr]; kernel_rfl⟩
theorem hm_items (hG : TopOk G) : ClsM G 182 "items" 146:=⟨by rw [hG.fr]; kernel_rfl,by rw [hG.fr]; kernel_rfl,by rw [hG.fr]; kernel_rfl⟩
theorem hm_setdefault (hG : TopOk G) : ClsM G 182 "setdefault" 172:=⟨by rw [hG.fr]; kernel_rfl,by rw [hG.fr]; kernel_rfl,by rw [hG.fr]; kernel_rfl⟩
theorem hm_add_header (hG : TopOk G) : ClsM G 182 "add_header" 179:=⟨by rw [hG.fr]; kernel_rfl,by rw [hG.fr]; kernel_rfl,by rw [hG.fr]; kernel_rfl⟩
theorem ev_headers (hG : TopOk G) (ho : Ev G n env mu (.Name id p') tH a mu₁) : Ev G n env mu (.Attribute (.Name id p') "_headers" pos) tVal (.ref a) mu₁ :=
 Ev.attr (i:=0) (hd_G hG) ho (fun _ _ h=>h) rfl (by show (["_headers"] : List Str).Nodup; decide +kernel) (by rw [hG.fr]; kernel_rfl) (fun K v e=>by have e : v = .ref a:=e; subst e; rfl)
theorem k_of (hG : TopOk G) {K : KH} {s : Shared} {a : Addr} {o : Obj} (hs : Own G K mu s) (e : (KF G.w.params).lookup a = some o) : K a = some o:=let ⟨⟨h1,h2⟩,h3⟩:=hG.at e; hs.old a o h1 h2 h3
theorem ev_reN {i : Nat} (hG : TopOk G) (F : FEnv env ln cn ca gn) (hi : gn[i]? = some "_name_disallowed_re") : Ev G n env mu (.Name "_name_disallowed_re" pos) tPat reN mu:=fun K nu A s hA hs =>
 (Ev.glb F hi (g_name_disallowed_re hG)).use hA hs fun K1 v s1 h1 o1 r1=>by
  have r1 : v = .ref 48:=r1
  subst r1
  exact done h1 o1 ⟨48,47,ob48 G.w.params,ob47 G.w.params,_,_,_,rfl,k_of hG o1 (by kernel_rfl),rfl,rfl,rfl,rfl,rfl,rfl,k_of hG o1 (by kernel_rfl),rfl,by decide +kernel⟩
theorem ev_reV {i : Nat} (hG : TopOk G) (F : FEnv env ln cn ca gn) (hi : gn[i]? = some "_value_disallowed_re") : Ev G n env mu (.Name "_value_disallowed_re" pos) tPat reV mu:=fun K nu A s hA hs =>
 (Ev.glb F hi (g_value_disallowed_re hG)).use hA hs fun K1 v s1 h1 o1 r1=>by
  have r1 : v = .ref 53:=r1
  subst r1
  exact done h1 o1 ⟨53,52,ob53 G.w.params,ob52 G.w.params,_,_,_,rfl,k_of hG o1 (by kernel_rfl),rfl,rfl,rfl,rfl,rfl,rfl,k_of hG o1 (by kernel_rfl),rfl,by decide +kernel⟩
theorem b_conv (a b c : Value) : bindArgs fd_Headers__convert_string_type ⟨[a,b],[(("name" : Str),c)]⟩ = pure [(("self" : Str),a),(("value" : Str),b),(("name" : Str),c)]:=by rw [bindF_eq]; kernel_rfl
theorem cod_conv (hG : TopOk G) {tv : TV} {x : Str} {b : Bool} (hx : Clean x) : CodX G (n + 1) (.ref 83) [tv,⟨tStr,x⟩] [("name", ⟨tBool,b⟩)] mu (fun K v mu'=>mu' = mu ∧ tStr.rel K v x):=by
 refine CodX.dfR (rho:=[some tv,some ⟨tStr,x⟩,some ⟨tBool,b⟩,none]) (ka:=[]) (ps:=[("self", tv),("value", ⟨tStr,x⟩),("name", ⟨tBool,b⟩)]) (ok_Headers__convert_string_type hG) (fun K vs kvs hv hk=>?_) (fun env ca F hl=>?_) (fun env ca F hl _=>?_)
 ·obtain ⟨v1,r1,rfl,h1,hr⟩:=All2.cons_right hv
  obtain ⟨v2,r2,rfl,h2,hr⟩:=All2.cons_right hr
  have:=hr.nil_right; subst this
  obtain ⟨⟨k,v3⟩,r3,rfl,⟨h3,h4⟩,hr⟩:=All2.cons_right hk
  have:=hr.nil_right; subst this
  have h3 : k = "name" := h3
  subst h3
  rw [b_conv]
  exact Tri.pure ⟨rfl,⟨rfl,h1⟩,⟨rfl,h2⟩,⟨rfl,h4⟩,trivial⟩
 ·obtain rfl:=ex0 hl
  next=>exact (.cons (.loc F (i:=0) rfl (lb rfl)) (.cons (.loc F (i:=1) rfl (lb rfl)) (.cons (.loc F (i:=2) rfl (lb rfl)) .nil)))
 ·obtain rfl:=ex0 hl
  next =>
   refine Ex.ifT (.ofCmp cmp_isT (.callT (.glb F (i:=0) rfl (g_type hG)) (.cons (.var (F.var (i:=1) rfl rfl)) .nil) cal_typeS) (.glb F (i:=1) rfl (g_str hG))) rfl ?_ noNext
   cases b with
   | true =>
    exact Ex.asg (T:=tPat) (x:=reN) (Cond.ifExp (c:=true) (.val (.var (F.var (i:=2) rfl rfl)) tru_bool) (fun _=>ev_reN hG F (i:=2) rfl) (fun h=>by cases h)) (As.loc F (i:=3) rfl (lb rfl))
     (Ex.ifF (.val (.search (.var (F.var (i:=3) rfl rfl)) (.var (F.var (i:=1) rfl rfl)) (noN hx) (by decide +kernel)) tru_none) rfl (Ex.ret (.var (F.var (i:=1) rfl rfl)) dropVS))
   | false =>
    exact Ex.asg (T:=tPat) (x:=reV) (Cond.ifExp (c:=false) (.val (.var (F.var (i:=2) rfl rfl)) tru_bool) (fun h=>by cases h) (fun _=>ev_reV hG F (i:=3) rfl)) (As.loc F (i:=3) rfl (lb rfl))
     (Ex.ifF (.val (.search (.var (F.var (i:=3) rfl rfl)) (.var (F.var (i:=1) rfl rfl)) (noV hx) (by decide +kernel)) tru_none) rfl (Ex.ret (.var (F.var (i:=1) rfl rfl)) dropVS))
theorem ev_conv (hG : TopOk G) {x : Str} {b : Bool} {k : Nat} (ho : Ev G (n + 1) env mu (.Name id p') tH a mu₁) (hx : Ev G (n + 1) env mu₁ e tStr x mu₂) (hc : Clean x) (hst : starEach [e] env = [(false,eval e env)]:=by rfl) {pl : Sem Bool}
  (he : eval (.Call (.Attribute (.Name id p') "_convert_string_type" ap) [e] [⟨some "name", .Constant (.bool b) k q,p2⟩] pos) env = (do
   let ov ← eval (.Name id p') env
   standAt ap.atName
   let (f,first) ← holding [ov] (getMethod ov "_convert_string_type" pl)
   callWith pos f first (backTo pos (starEach [e] env)) (backToKw pos (keywordEach [⟨some "name", .Constant (.bool b) k q,p2⟩] env))):=by rfl) :
  Ev G (n + 1) env mu (.Call (.Attribute (.Name id p') "_convert_string_type" ap) [e] [⟨some "name", .Constant (.bool b) k q,p2⟩] pos) tStr x mu₂ :=
 Ev.meth (hd_G hG) (hm_conv hG) ho (fun _ _ h=>h) rfl (EvA.kw1 (.cons hx .nil hst) .boolC hst (by rw [hst]; rfl)) (cod_conv hG hc).calK he
end
noncomputable abbrev rHd (a : Addr) (rows : List (Str × Str)) : Res:=rList a (tPair tStr tStr) rows
structure HdFit (rows : List (Str × Str)) : Prop where
 len : rows.length ≤ 1000
 all : ∀ kv ∈ rows,kv.1.length ≤ 1000 ∧ kv.2.length ≤ 1000
theorem perm1 {V : List Res} {r : Res} : (V ++ [r]).Perm (r :: (V ++ [])):=by rw [List.append_nil]; exact List.perm_append_singleton r V
noncomputable def sameH (nm : Str) (kv : Str × Str) : Bool:=decide (Txt.lower kv.1 = Txt.lower nm)
noncomputable def getAll (rows : List (Str × Str)) (nm : Str) : List Str:=(rows.filter (sameH nm)).map (·.2)
noncomputable def findH (rows : List (Str × Str)) (nm : Str) : Option (Str × Str):=rows.find? (sameH nm)
section
variable {G : Gl} {n : Nat} {env : Env} {mu mu₁ mu₂ : List Res} {id : Str} {p' p2 pos q ap : Pos} {a : Addr} {ln cn gn : List Str} {ca : List Addr} {e : Expr} {rows : List (Str × Str)} {nm : Str}
theorem b_get_all (a b : Value) : bindArgs fd_Headers_get_all ⟨[a,b],[]⟩ = pure [(("self" : Str),a),(("name" : Str),b)]:=by rw [bindF_eq]; kernel_rfl
theorem cod_get_all (hG : TopOk G) (hr : HdFit rows) (hn : nm.length ≤ 1000) (hc : Clean (Txt.lower nm)) : CodX G (n + 2) (.ref 121) [⟨tH,a⟩,⟨tStr,nm⟩] [] [rHd a rows] (fun K v mu'=>mu' = [rHd a rows] ∧ tLS.rel K v (getAll rows nm)):=by
 have hrl:=hr.len
 refine CodX.dfR (rho:=[some ⟨tH,a⟩]) (ka:=[some ⟨tStr,nm⟩]) (ps:=[("self", ⟨tH,a⟩),("name", ⟨tStr,nm⟩)]) (ok_Headers_get_all hG) (bind2 b_get_all) (fun env ca F hl=>?_) (fun env ca F hl _=>?_)
 ·obtain ⟨c0,rfl⟩:=ex1 hl
  next=>exact (.cons (.loc F (i:=0) rfl (lb rfl)) (.cons (.cel F (i:=0) rfl rfl (lb rfl)) .nil))
 ·obtain ⟨c0,rfl⟩:=ex1 hl
  next =>
   refine Ex.asg (ev_conv hG (.var (F.var (i:=0) rfl rfl)) (.str0 PySem.F.slot_str_lower PySem.F.type_str_lower (.var (F.celIn (i:=0) rfl rfl rfl).var) (cal_lower (by walk_at "sc"))) hc) (As.cel F (i:=0) rfl rfl (lb rfl)) ?_
   exact Ex.ret (Ev.comp (T:=tPair tStr tStr) (U:=tStr) (sameH nm) (fun kv : Str × Str=>kv.2) F (csc_of (ln:=["kv"]) (cn:=[]) (fn:=["name"]) (gn:=[]) (by decide +kernel)) (.consF F (i:=0) rfl rfl .nil)
    (.listO (ev_headers hG (.var (F.var (i:=0) rfl rfl))) perm1) (by rw [sizeLine_nat]; lia) (fun e1 a1 B1 x1 h1=>match a1,B1.len with | [],_=>⟨[some ⟨tPair tStr tStr,x1⟩],[],rfl,As.loc B1.F (i:=0) rfl (lb rfl),.one (.ofCmp cmp_eqS (.str0 PySem.F.slot_str_lower PySem.F.type_str_lower (.fst (.var (B1.F.var (i:=0) rfl rfl)) .intC) (cal_lower (by have:=(hr.all x1 h1).1; lia))) (.var (B1.S.cel (i:=0) rfl (F.celIn (i:=0) rfl rfl rfl) _).var)),fun _=>.snd (.var (B1.F.var (i:=0) rfl rfl)) .intC⟩)) (Wk.sub (List.sublist_append_right _ _))
theorem b_get2 (hG : TopOk G) (a b : Value) : PySem.W.peek G.fr ⟨G.prog,G.w.params⟩ (bindArgs fd_Headers_get ⟨[a,b],[]⟩) = some [(("self" : Str),a),(("name" : Str),b),(("default" : Str),.none)]:=by rw [hG.fr,hG.pr]; kernel_rfl
theorem b_get3 (hG : TopOk G) (a b c : Value) : PySem.W.peek G.fr ⟨G.prog,G.w.params⟩ (bindArgs fd_Headers_get ⟨[a,b,c],[]⟩) = some [(("self" : Str),a),(("name" : Str),b),(("default" : Str),c)]:=by rw [hG.fr,hG.pr]; kernel_rfl
noncomputable def getV {α : Type} (f : Str → α) (dv : α) (rows : List (Str × Str)) (nm : Str) : α:=match findH rows nm with
 | some kv=>f kv.2
 | none=>dv
set_option maxHeartbeats 1000000 in
theorem cod_get {α : Type} {T : Ty α} {dv : α} {f : Str → α} {ts : List TV} (hT : ∀ K v s,tStr.rel K v s → T.rel K v (f s)) (hG : TopOk G) (hr : HdFit rows) (hn : nm.length ≤ 1000) (hc : Clean (Txt.lower nm))
  (hb : ∀ K vs kvs,ARel K vs ts → BRel K kvs [] → Tri G (n + 1) K [rHd a rows] (bindArgs fd_Headers_get ⟨vs,kvs⟩) fun K1 mu1 bs=>mu1 = [rHd a rows] ∧ BRel K1 bs [("self", ⟨tH,a⟩),("name", ⟨tStr,nm⟩),("default", ⟨T,dv⟩)]) :
  CodX G (n + 2) (.ref 129) ts [] [rHd a rows] (fun K v mu'=>mu' = [rHd a rows] ∧ T.rel K v (getV f dv rows nm)):=by
 refine CodX.dfR (rho:=[some ⟨tH,a⟩,some ⟨tStr,nm⟩,some ⟨T,dv⟩,none,none]) (ka:=[]) (ok_Headers_get hG) hb (fun env ca F hl=>?_) (fun env ca F hl _=>?_)
 ·obtain rfl:=ex0 hl
  next=>exact (.cons (.loc F (i:=0) rfl (lb rfl)) (.cons (.loc F (i:=1) rfl (lb rfl)) (.cons (.loc F (i:=2) rfl (lb rfl)) .nil)))
 ·obtain rfl:=ex0 hl
  next =>
   refine Ex.asg (ev_conv hG (.var (F.var (i:=0) rfl rfl)) (.str0 PySem.F.slot_str_lower PySem.F.type_str_lower (.var (F.var (i:=1) rfl rfl)) (cal_lower (by walk_at "sc"))) hc) (As.loc F (i:=1) rfl (lb rfl)) ?_
   refine Ex.searchL (xs:=rows) (sameH nm) (ExS.searchLO (T:=tPair tStr tStr) (Ψ:=fun x f' K mu'=>rRet G T (f x.2) [rHd a rows] f' K mu') (J:=VS env.locals ["self", "name", "default", "k", "v"] [some ⟨tH,a⟩,some ⟨tStr,(Txt.lower nm)⟩,some ⟨T,dv⟩,none,none] [] [] ++ []) _ (ev_headers hG (.var (F.var (i:=0) rfl rfl))) perm1 (fun x hx=>⟨_,.pair (As.loc F (i:=3) rfl (lb rfl)) (As.loc F (i:=4) rfl (lb rfl)),fun hq=>?_,fun hq=>?_⟩)) (fun h0=>?_) (fun x v K mu' h0 hp=>?_)
   ·refine Ex.mono (F':=rRet G T (f x.2) []) (Ex.ifT (.ofCmp cmp_eqS (.str0 PySem.F.slot_str_lower PySem.F.type_str_lower (.var (F.var (i:=3) rfl rfl)) (cal_lower (by have:=(hr.all x hx).1; lia))) (.var (F.var (i:=1) rfl rfl))) hq (Ex.ret (T:=T) (x:=f x.2) (fun K=>(Ev.var (F.var (i:=4) rfl rfl) K).mono fun K' mu' v _ ⟨e1,e2⟩=>⟨e1,hT _ _ _ e2⟩) (Wk.sub (List.nil_sublist _))) noNext) fun f' K mu' ⟨v,e1,hw,h⟩=>⟨v,e1,v,e1,hw.append [rHd a rows],h⟩
   ·exact Ex.ifF (.ofCmp cmp_eqS (.str0 PySem.F.slot_str_lower PySem.F.type_str_lower (.var (F.var (i:=3) rfl rfl)) (cal_lower (by have:=(hr.all x hx).1; lia))) (.var (F.var (i:=1) rfl rfl))) hq (Ex.nil fun K=>⟨rfl,Wk.forget (by walk_at "forget")⟩)
   ·have e : getV f dv rows nm = dv:=by unfold getV findH; rw [h0]
    rw [e,List.append_assoc]
    exact Ex.ret (.var (F.var (i:=2) rfl rfl)) (Wk.sub (List.sublist_append_right _ _))
   ·have e : getV f dv rows nm = f x.2:=by unfold getV findH; rw [h0]
    rw [e]; exact hp
theorem cod_getN (hG : TopOk G) (hr : HdFit rows) (hn : nm.length ≤ 1000) (hc : Clean (Txt.lower nm)) : CodX G (n + 2) (.ref 129) [⟨tH,a⟩,⟨tStr,nm⟩] [] [rHd a rows] (fun K v mu'=>mu' = [rHd a rows] ∧ (tOpt tStr).rel K v ((findH rows nm).map (·.2))):=by
 have h:=cod_get (n:=n) (a:=a) (T:=tOpt tStr) (dv:=none) (f:=some) (ts:=[⟨tH,a⟩,⟨tStr,nm⟩]) (rows:=rows) (nm:=nm) (fun _ _ _ h=>h) hG hr hn hc (fun K vs kvs hv hk=>by
  have:=All2.nil_right hk; subst this
  obtain ⟨v1,r1,rfl,h1,hr⟩:=All2.cons_right hv
  obtain ⟨v2,r2,rfl,h2,hr⟩:=All2.cons_right hr
  have:=hr.nil_right; subst this
  exact Tri.peek hG.t (b_get2 hG v1 v2) ⟨rfl,⟨rfl,h1⟩,⟨rfl,h2⟩,⟨rfl,rfl⟩,trivial⟩)
 have e : getV some none rows nm = (findH rows nm).map (·.2):=by unfold getV; cases findH rows nm <;> rfl
 rw [e] at h; exact h
theorem cod_getS (hG : TopOk G) {d : Str} (hr : HdFit rows) (hn : nm.length ≤ 1000) (hc : Clean (Txt.lower nm)) : CodX G (n + 2) (.ref 129) [⟨tH,a⟩,⟨tStr,nm⟩,⟨tStr,d⟩] [] [rHd a rows] (fun K v mu'=>mu' = [rHd a rows] ∧ tStr.rel K v (((findH rows nm).map (·.2)).getD d)):=by
 have h:=cod_get (n:=n) (a:=a) (T:=tStr) (dv:=d) (f:=fun s=>s) (ts:=[⟨tH,a⟩,⟨tStr,nm⟩,⟨tStr,d⟩]) (rows:=rows) (nm:=nm) (fun _ _ _ h=>h) hG hr hn hc (fun K vs kvs hv hk=>by
  have:=All2.nil_right hk; subst this
  obtain ⟨v1,r1,rfl,h1,hr⟩:=All2.cons_right hv
  obtain ⟨v2,r2,rfl,h2,hr⟩:=All2.cons_right hr
  obtain ⟨v3,r3,rfl,h3,hr⟩:=All2.cons_right hr
  have:=hr.nil_right; subst this
  exact Tri.peek hG.t (b_get3 hG v1 v2 v3) ⟨rfl,⟨rfl,h1⟩,⟨rfl,h2⟩,⟨rfl,h3⟩,trivial⟩)
 have e : getV (fun s=>s) d rows nm = ((findH rows nm).map (·.2)).getD d:=by unfold getV; cases findH rows nm <;> rfl
 rw [e] at h; exact h
theorem b_keys (a : Value) : bindArgs fd_Headers_keys ⟨[a],[]⟩ = pure [(("self" : Str),a)]:=by rw [bindF_eq]; kernel_rfl
theorem cod_keys (hG : TopOk G) (hr : HdFit rows) : CodX G (n + 1) (.ref 134) [⟨tH,a⟩] [] [rHd a rows] (fun K v mu'=>mu' = [rHd a rows] ∧ tLS.rel K v (rows.map (·.1))):=by
 have hrl:=hr.len
 refine CodX.dfR (rho:=[some ⟨tH,a⟩]) (ka:=[]) (ok_Headers_keys hG) (bind1 b_keys) (fun env ca F hl=>?_) (fun env ca F hl _=>?_)
 ·obtain rfl:=ex0 hl
  next=>exact (.cons (.loc F (i:=0) rfl (lb rfl)) .nil)
 ·obtain rfl:=ex0 hl
  next =>
   exact Ex.ret (Ev.compA (T:=tPair tStr tStr) (U:=tStr) (fun kv : Str × Str=>kv.1) F (csc_of (ln:=["k", "v"]) (cn:=[]) (fn:=[]) (gn:=[]) (by decide +kernel)) .nil
    (.listO (ev_headers hG (.var (F.var (i:=0) rfl rfl))) perm1) (by rw [sizeLine_nat]; lia) (fun e1 a1 B1 x1 h1=>match a1,B1.len with | [],_=>⟨[some ⟨tStr,x1.1⟩,some ⟨tStr,x1.2⟩],[],rfl,.pair (As.loc B1.F (i:=0) rfl (lb rfl)) (As.loc B1.F (i:=1) rfl (lb rfl)),.var (B1.F.var (i:=0) rfl rfl)⟩)) (Wk.sub (List.sublist_append_right _ _))
theorem b_values (a : Value) : bindArgs fd_Headers_values ⟨[a],[]⟩ = pure [(("self" : Str),a)]:=by rw [bindF_eq]; kernel_rfl
theorem cod_values (hG : TopOk G) (hr : HdFit rows) : CodX G (n + 1) (.ref 139) [⟨tH,a⟩] [] [rHd a rows] (fun K v mu'=>mu' = [rHd a rows] ∧ tLS.rel K v (rows.map (·.2))):=by
 have hrl:=hr.len
 refine CodX.dfR (rho:=[some ⟨tH,a⟩]) (ka:=[]) (ok_Headers_values hG) (bind1 b_values) (fun env ca F hl=>?_) (fun env ca F hl _=>?_)
 ·obtain rfl:=ex0 hl
  next=>exact (.cons (.loc F (i:=0) rfl (lb rfl)) .nil)
 ·obtain rfl:=ex0 hl
  next =>
   exact Ex.ret (Ev.compA (T:=tPair tStr tStr) (U:=tStr) (fun kv : Str × Str=>kv.2) F (csc_of (ln:=["k", "v"]) (cn:=[]) (fn:=[]) (gn:=[]) (by decide +kernel)) .nil
    (.listO (ev_headers hG (.var (F.var (i:=0) rfl rfl))) perm1) (by rw [sizeLine_nat]; lia) (fun e1 a1 B1 x1 h1=>match a1,B1.len with | [],_=>⟨[some ⟨tStr,x1.1⟩,some ⟨tStr,x1.2⟩],[],rfl,.pair (As.loc B1.F (i:=0) rfl (lb rfl)) (As.loc B1.F (i:=1) rfl (lb rfl)),.var (B1.F.var (i:=1) rfl rfl)⟩)) (Wk.sub (List.sublist_append_right _ _))
theorem b_items (a : Value) : bindArgs fd_Headers_items ⟨[a],[]⟩ = pure [(("self" : Str),a)]:=by rw [bindF_eq]; kernel_rfl
theorem cod_items (hG : TopOk G) (hr : HdFit rows) : CodX G (n + 1) (.ref 146) [⟨tH,a⟩] [] [rHd a rows] (fun K v mu'=>mu' = [rHd a rows] ∧ (tList (tPair tStr tStr)).rel K v rows):=by
 have hrl:=hr.len
 refine CodX.dfR (rho:=[some ⟨tH,a⟩]) (ka:=[]) (ok_Headers_items hG) (bind1 b_items) (fun env ca F hl=>?_) (fun env ca F hl _=>?_)
 ·obtain rfl:=ex0 hl
  next=>exact (.cons (.loc F (i:=0) rfl (lb rfl)) .nil)
 ·obtain rfl:=ex0 hl
  next =>
   exact Ex.ret (Ev.conv (Ev.slice (xs:=rows) (Ev.toLI (i:=0) (ev_headers hG (.var (F.var (i:=0) rfl rfl))) rfl) .none .none (by rw [sizeLine_nat]; lia)) (pySlice_all rows)) (Wk.sub (List.sublist_append_right _ _))
end
noncomputable def sdH (rows : List (Str × Str)) (nm val : Str) : Str × List (Str × Str):=match findH rows nm with
 | some kv=>(kv.2,rows)
 | none=>(val,rows ++ [(nm,val)])
theorem join_one (a x : Str) : Txt.join a [x] = x:=eq_of_beq (join_plain_closes a [x])
section
variable {G : Gl} {n : Nat} {env : Env} {mu mu₁ mu₂ W R : List Res} {id : Str} {p' p2 pos q ap : Pos} {a : Addr} {ln cn gn : List Str} {ca : List Addr} {e : Expr} {rows : List (Str × Str)} {nm val : Str} {ι : Type}
theorem EvX.front {r : ι → Res} {P : ι → KH → Value → Prop} (h : EvX G n env mu e (fun K v mu'=>∃ i,mu' = r i :: (W ++ R) ∧ P i K v)) : EvX G n env mu e (fun K v mu'=>∃ i,mu' = (fun i=>W ++ (r i :: R)) i ∧ P i K v):=fun K =>
 Tri.permPost (h K) fun K' mu' v _ ⟨i,e1,hp⟩=>by subst e1; exact ⟨_,List.perm_middle.symm,i,rfl,hp⟩
theorem b_setdefault (a b c : Value) : bindArgs fd_Headers_setdefault ⟨[a,b,c],[]⟩ = pure [(("self" : Str),a),(("name" : Str),b),(("value" : Str),c)]:=by rw [bindF_eq]; kernel_rfl
set_option maxHeartbeats 1000000 in
theorem cod_setdefault (hG : TopOk G) (hr : HdFit rows) (hn : nm.length ≤ 1000) (hc : Clean (Txt.lower nm)) (hc1 : Clean nm) (hc2 : Clean val) : CodX G (n + 4) (.ref 172) [⟨tH,a⟩,⟨tStr,nm⟩,⟨tStr,val⟩] [] [rHd a rows] (fun K v mu'=>mu' = [rHd a (sdH rows nm val).2] ∧ tStr.rel K v (sdH rows nm val).1):=by
 have hrl:=hr.len
 refine CodX.dfR (rho:=[some ⟨tH,a⟩,some ⟨tStr,nm⟩,some ⟨tStr,val⟩,none]) (ka:=[]) (ok_Headers_setdefault hG) (bind3 b_setdefault) (fun env ca F hl=>?_) (fun env ca F hl _=>?_)
 ·obtain rfl:=ex0 hl
  next=>exact (.cons (.loc F (i:=0) rfl (lb rfl)) (.cons (.loc F (i:=1) rfl (lb rfl)) (.cons (.loc F (i:=2) rfl (lb rfl)) .nil)))
 ·obtain rfl:=ex0 hl
  next =>
   refine Ex.asg (T:=tOpt tStr) (x:=(findH rows nm).map (·.2)) (Ev.meth (hd_G hG) (hm_get hG) (.var (F.var (i:=0) rfl rfl)) (fun _ _ h=>h) rfl (EvA.cons (.var (F.var (i:=1) rfl rfl)) .nil).toK (CalK.at0 (i:=0) (cod_getN hG hr hn hc).calK rfl)) (As.loc F (i:=3) rfl (lb rfl)) ?_
   cases hf : findH rows nm with
   | none =>
    have e : sdH rows nm val = (val,rows ++ [(nm,val)]):=by unfold sdH; rw [hf]
    rw [e]
    exact Ex.ifT (.ofCmp (cmp_isNone (T:=tOpt tStr) (x:=(none : Option Str)) (b:=true) (fun K v e=>by have e : v = .none:=e; subst e; rfl)) (.var (F.var (i:=3) rfl rfl)) .noneC) rfl
     (Ex.app (i:=0) F (ev_headers hG (.var (F.var (i:=0) rfl rfl))) (.pair (ev_conv hG (.var (F.var (i:=0) rfl rfl)) (.var (F.var (i:=1) rfl rfl)) hc1) (ev_conv hG (.var (F.var (i:=0) rfl rfl)) (.var (F.var (i:=2) rfl rfl)) hc2)) rfl (by lia) (Ex.ret (.var (F.var (i:=2) rfl rfl)) dropVS)) noNext
   | some kv =>
    have e : sdH rows nm val = (kv.2,rows):=by unfold sdH; rw [hf]
    rw [e]
    exact Ex.ifE (.ofCmp (cmp_isNone (T:=tOpt tStr) (x:=some kv.2) (b:=false) (fun K v ⟨t,e⟩=>by subst e; rfl)) (.var (F.var (i:=3) rfl rfl)) .noneC) rfl
     (Ex.ret (T:=tStr) (x:=kv.2) (fun K=>(Ev.var (T:=tOpt tStr) (x:=some kv.2) (F.var (i:=3) rfl rfl) K)) dropVS) noNext
theorem b_add_header (s a b : Value) : bindArgs fd_Headers_add_header ⟨[s,a,b],[]⟩ = (do let d ← alloc dict0; pure [(("self" : Str),s),(("_name" : Str),a),(("_value" : Str),b),(("_params" : Str),Value.ref d)]):=by rw [bindF_eq]; kernel_rfl
set_option maxHeartbeats 1000000 in
theorem cod_add_header (hG : TopOk G) (hr : HdFit rows) (hc1 : Clean nm) (hc2 : Clean val) (hvl : val.length ≤ 1000) : CodX G (n + 4) (.ref 179) [⟨tH,a⟩,⟨tStr,nm⟩,⟨tStr,val⟩] [] [rHd a rows] (fun K v mu'=>mu' = [rHd a (rows ++ [(nm,val)])] ∧ tNone.rel K v ()):=by
 have hrl:=hr.len
 have hsl : ("; " : Str).length = 2:=by decide +kernel
 refine CodX.func (rho:=[some ⟨tH,a⟩,some ⟨tStr,nm⟩,some ⟨tStr,val⟩,some ⟨tDict0,()⟩,none,none,none]) (ka:=[]) (mu₁:=[rHd a rows]) (ps:=[("self", ⟨tH,a⟩),("_name", ⟨tStr,nm⟩),("_value", ⟨tStr,val⟩),("_params", ⟨tDict0,()⟩)]) (ok_Headers_add_header hG) (fun K vs kvs hv hk=>?_) (fun env ca F hl=>?_) (fun env ca F hl=>?_)
 ·have:=All2.nil_right hk; subst this
  obtain ⟨v1,r1,rfl,h1,hr⟩:=All2.cons_right hv
  obtain ⟨v2,r2,rfl,h2,hr⟩:=All2.cons_right hr
  obtain ⟨v3,r3,rfl,h3,hr⟩:=All2.cons_right hr
  have:=hr.nil_right; subst this
  rw [b_add_header]
  intro nu A s hA hs
  refine wpAny_bind (wpAny_alloc ?_)
  have o1:=hs.push dict0
  have hle:=kput_le (o:=dict0) hs.fresh
  refine wpAny_pure ⟨_,[rHd a rows],hle,o1,rfl,⟨rfl,(tHd _).mono hle h1⟩,⟨rfl,tStr.mono hle h2⟩,⟨rfl,tStr.mono hle h3⟩,⟨rfl,_,rfl,kput_self ..,?_⟩,trivial⟩
  obtain ⟨⟨o,e⟩,x,y⟩:=hG.t.sysm
  exact beq_eq_false_iff_ne.mpr (Nat.ne_of_gt (hs.klt (hs.old _ _ x y e)))
 ·obtain rfl:=ex0 hl
  next=>exact (.cons (.loc F (i:=0) rfl (lb rfl)) (.cons (.loc F (i:=1) rfl (lb rfl)) (.cons (.loc F (i:=2) rfl (lb rfl)) (.cons (.loc F (i:=3) rfl (lb rfl)) .nil))))
 ·obtain rfl:=ex0 hl
  next =>
   refine Ex.newList (T:=tStr) (xs:=[]) (i:=4) F rfl (lb rfl) .nil (by decide) fun b=>?_
   refine Ex.ifN (mu₂:=VS env.locals ["self", "_name", "_value", "_params", "parts", "k", "v"] [some ⟨tH,a⟩,some ⟨tStr,nm⟩,some ⟨tStr,val⟩,some ⟨tDict0,()⟩,some ⟨tVal,.ref b⟩,none,none] [] [] ++ [rList b tStr [val],rHd a rows]) (.ofCmp (cmp_isNotNone (T:=tStr) (x:=val) (b:=true) (fun K v ⟨t,e⟩=>by subst e; rfl)) (.var (F.var (i:=2) rfl rfl)) .noneC)
    (fun _=>Ex.asg (ev_conv hG (.var (F.var (i:=0) rfl rfl)) (.var (F.var (i:=2) rfl rfl)) hc2) (As.loc F (i:=2) rfl (lb rfl)) (Ex.app (i:=0) F (.var (F.var (i:=4) rfl rfl)) (.var (F.var (i:=2) rfl rfl)) rfl (by decide) (Ex.nil fun K=>⟨rfl,rfl⟩))) (fun h=>by cases h) ?_
   refine Ex.next (ExS.forItems0 (F:=fNext _) (.var (F.var (i:=3) rfl rfl)) (fun K=>⟨rfl,rfl⟩)) ?_
   refine Ex.ghost (WkG.frzL (i:=4) (j:=0) rfl rfl) ?_
   refine Ex.app (i:=0) F (T:=tPair tStr tStr) (x:=(nm,val)) (ev_headers hG (.var (F.var (i:=0) rfl rfl))) (.pair (ev_conv hG (.var (F.var (i:=0) rfl rfl)) (.var (F.var (i:=1) rfl rfl)) hc1) (Ev.conv (.join .strC (.var (F.var (i:=4) rfl rfl)) (by rw [hsl]; simp only [List.map_cons,List.map_nil,List.sum_cons,List.sum_nil,List.length_cons,List.length_nil]; lia)) (join_one _ _))) rfl (by lia) ?_
   exact fOutP.end_ dropVS fun K=>⟨rfl,rfl⟩
theorem cal_typeO {α : Type} {T : Ty α} {xs : List α} {i : Nat} (hi : R[i]? = some (rList a T xs)) : Cal G n (.type "type") [⟨tVal,.ref a⟩] (W ++ R) tVal (.type "list") (W ++ R):=fun K vs hv nu A s hA hs=>by
 obtain ⟨v,r,rfl,h1,hr⟩:=All2.cons_right hv
 have:=hr.nil_right; subst this
 have h1 : v = .ref a:=h1
 subst h1
 obtain ⟨o,e,vs,m,rfl,_⟩:=hs.get (mem_R hi)
 exact call_type_of (typeIs_list e) (by decide +kernel) ⟨K,_,.refl K,hs,rfl,rfl⟩
theorem b_hd_init (hG : TopOk G) (a : Value) : PySem.W.peek G.fr ⟨G.prog,G.w.params⟩ (bindArgs fd_Headers_init ⟨[a],[]⟩) = some [(("self" : Str),a),(("headers" : Str),.none)]:=by rw [hG.fr,hG.pr]; kernel_rfl
set_option maxHeartbeats 1000000 in
theorem cod_hd (hG : TopOk G) : CodX G (n + 3) (.ref 182) [] [] mu (fun K v mu'=>∃ a,mu' = rHd a [] :: mu ∧ tH.rel K v a):=by
 refine CodX.make (n:=n + 2) (as:=fun a=>[("_headers", ⟨tVal,.ref a⟩)]) (M:=fun a=>rHd a [] :: mu) (hd_K hG) fun xa dx=>?_
 refine CodX.func (rho:=[some ⟨tObj 182 dx,xa⟩,some ⟨tNone,()⟩,none,none]) (ka:=[]) (mu₁:=rAttr dx [] :: mu) (ps:=[("self", ⟨(tObj 182 dx),xa⟩),("headers", ⟨tNone,()⟩)]) (ok_Headers_init hG) (fun K vs kvs hv hk=>?_) (fun env ca F hl=>?_) (fun env ca F hl=>?_)
 ·have:=All2.nil_right hk; subst this
  obtain ⟨v1,r1,rfl,h1,hr⟩:=All2.cons_right hv
  have:=hr.nil_right; subst this
  exact Tri.peek hG.t (b_hd_init hG v1) ⟨rfl,⟨rfl,h1⟩,⟨rfl,rfl⟩,trivial⟩
 ·obtain rfl:=ex0 hl
  next=>exact (.cons (.loc F (i:=0) rfl (lb rfl)) (.cons (.loc F (i:=1) rfl (lb rfl)) .nil))
 ·obtain rfl:=ex0 hl
  next =>
   refine Ex.asgX (ι:=Addr) (M:=fun a=>VS env.locals ["self", "headers", "k", "v"] [some ⟨tObj 182 dx,xa⟩,some ⟨tNone,()⟩,none,none] [] [] ++ (rHd a [] :: rAttr dx [] :: mu)) (Tv:=fun a=>⟨tVal,.ref a⟩) (M':=fun a=>VS env.locals ["self", "headers", "k", "v"] [some ⟨tObj 182 dx,xa⟩,some ⟨tVal,.ref a⟩,none,none] [] [] ++ (rHd a [] :: rAttr dx [] :: mu))
    (EvX.ifExp (c:=false) (.ofCmp (cmp_isNotNone (T:=tNone) (x:=()) (b:=false) (fun K v e=>by have e : v = .none:=e; subst e; rfl)) (.var (F.var (i:=1) rfl rfl)) .noneC) (fun h=>by cases h) (fun _=>(EvX.list (T:=tPair tStr tStr) (xs:=[]) .nil (by decide)).mono fun K v mu' ⟨a,e1,e2⟩=>⟨a,e2,e1⟩)) (fun a=>(As.loc F (i:=1) rfl (lb rfl))) fun a=>?_
   refine Ex.ifF (.ofCmp (cmp_isNotT (a:="list")) (.callT (.glb F (i:=0) rfl (g_type hG)) (.cons (.var (F.var (i:=1) rfl rfl)) .nil) (cal_typeO (i:=0) rfl)) (.glb F (i:=1) rfl (g_list hG))) rfl ?_
   refine Ex.next (ExS.setAttr (T:=tVal) (x:=.ref a) (as:=[]) (W:=VS env.locals ["self", "headers", "k", "v"] [some ⟨tObj 182 dx,xa⟩,some ⟨tVal,.ref a⟩,none,none] [] []) (R:=rHd a [] :: rAttr dx [] :: mu) (i:=1) (hd_S hG) (.var (F.var (i:=1) rfl rfl)) (.var (F.var (i:=0) rfl rfl)) rfl rfl (lb rfl) (by rw [hG.fr]; kernel_rfl)) ?_
   refine Ex.cons (F':=fun f _ mu'=>f = .next ∧ Wk G mu' (VS env.locals ["self", "headers", "k", "v"] [some ⟨tObj 182 dx,xa⟩,some ⟨tVal,.ref a⟩,none,none] [] [] ++ (rHd a [] :: rAttr dx [("_headers", ⟨tVal,.ref a⟩)] :: mu))) (ExS.if_ (b:=true) (.val .boolC tru_bool) (fun _=>Ex.one ((ExS.searchLO (T:=tPair tStr tStr) (xs:=[]) (a:=a) (Ψ:=fun _ _ _ _=>False) (J:=VS env.locals ["self", "headers", "k", "v"] [some ⟨tObj 182 dx,xa⟩,some ⟨tVal,.ref a⟩,none,none] [] [] ++ (rAttr dx [("_headers", ⟨tVal,.ref a⟩)] :: mu)) (fun _=>false) (.var (F.var (i:=1) rfl rfl)) List.perm_middle (fun x hx=>by simp at hx)).mono fun f K mu' h=>?_)) (fun h=>by cases h)) (fun f K mu' ⟨e1,hw⟩=>?_)
   ·rcases h with ⟨e1,e2,_⟩ | ⟨x,v,_,_,h⟩
    ·subst e2
     refine ⟨e1,Wk.perm ?_⟩
     exact (List.perm_append_singleton _ _).trans List.perm_middle.symm
    ·exact h.elim
   ·subst e1
    exact Tri.weaken hw (fOutP.end_ (mu₂:=rAttr dx [("_headers", ⟨tVal,.ref a⟩)] :: rHd a [] :: mu) (dropVS.trans (Wk.perm (List.Perm.swap ..))) (fun K=>⟨rfl,a,rfl⟩) K)
end
section
variable {G : Gl} {n : Nat} {env : Env} {mu mu₁ mu₂ W R : List Res} {id : Str} {p' p2 pos q ap : Pos}
theorem cod_mk1 (hG : TopOk G) {ms : List Str} (hms : ms.Nodup) (hl : ms.length ≤ 1000) : CodX G (n + 7) (.ref 265) [⟨tList tStr,ms⟩] [] mu (fun K v mu'=>∃ d,mu' = rDict G d [("<string>", 1)] :: mu ∧ (tIg G 265).rel K v ⟨ms,[],d⟩) :=
 CodX.make (n:=n + 6) (as:=fun d=>igAttrs G ⟨ms,[],d⟩) (M:=fun d=>rDict G d [("<string>", 1)] :: mu) (ig_K hG) fun xa dx =>
  cod_ig (ds:=[]) hG (.list ms) .none hms hl (fun d h=>by cases h) (by simp) fun K vs kvs hv hk=>by
   have:=All2.nil_right hk; subst this
   obtain ⟨v1,r1,rfl,h1,hr⟩:=All2.cons_right hv
   obtain ⟨v2,r2,rfl,h2,hr⟩:=All2.cons_right hr
   have:=hr.nil_right; subst this
   exact Tri.peek hG.t (b_ig_init hG v1 v2 .none) ⟨rfl,⟨rfl,h1⟩,⟨rfl,h2⟩,⟨rfl,rfl⟩,trivial⟩
theorem cod_mk2 (hG : TopOk G) {tm : TV} {ms ds : List Str} (hm : OptL tm ms) (hms : ms.Nodup) (hl : ms.length ≤ 1000) (hds : ∀ d ∈ ds,NormOk d) (hdl : ds.length ≤ 1000) : CodX G (n + 7) (.ref 265) [tm,⟨tList tStr,ds⟩] [] mu (fun K v mu'=>∃ d,mu' = rDict G d [("<string>", 1)] :: mu ∧ (tIg G 265).rel K v ⟨ms,ds.map normP,d⟩) :=
 CodX.make (n:=n + 6) (as:=fun d=>igAttrs G ⟨ms,ds.map normP,d⟩) (M:=fun d=>rDict G d [("<string>", 1)] :: mu) (ig_K hG) fun xa dx =>
  cod_ig hG hm (.list ds) hms hl hds hdl fun K vs kvs hv hk=>by
   have:=All2.nil_right hk; subst this
   obtain ⟨v1,r1,rfl,h1,hr⟩:=All2.cons_right hv
   obtain ⟨v2,r2,rfl,h2,hr⟩:=All2.cons_right hr
   obtain ⟨v3,r3,rfl,h3,hr⟩:=All2.cons_right hr
   have:=hr.nil_right; subst this
   exact Tri.peek hG.t (b_ig_init3 hG v1 v2 v3) ⟨rfl,⟨rfl,h1⟩,⟨rfl,h2⟩,⟨rfl,h3⟩,trivial⟩
theorem b_law_steps (a : Value) : bindArgs fd_law_steps ⟨[a],[]⟩ = pure [(("row" : Str),a)]:=by rw [bindF_eq]; kernel_rfl
noncomputable def lawTree (row : List Int) : List (Int × Int):=([((0 : Int),(1 : Int))] ++ (List.map (fun x1 : Int=>(((List.getD row (Int.toNat (x1 - (2 : Int))) 0) % x1),x1)) (intRange (2 : Int) (5 : Int))))
noncomputable def lawSteps (row : List Int) : List (Int × Int):=lawTree row ++ (List.map (fun x1 : Int=>((x1 % (5 : Int)),((1 : Int) + ((x1 / (5 : Int)) % (4 : Int))))) (pySlice row (some (3 : Int)) none))
theorem lawTree_len (row : List Int) : (lawTree row).length = 4:=by
 unfold lawTree; rw [List.length_append,List.length_map,intRange_len]; rfl
theorem tail_len (row : List Int) : (pySlice row (some 3) none).length = row.length - 3:=by rw [pySlice_from _ _ (by decide),List.length_drop]; rfl
theorem lawSteps_len (row : List Int) : (lawSteps row).length = 4 + (row.length - 3):=by
 unfold lawSteps; rw [List.length_append,List.length_map,lawTree_len,tail_len]
theorem cal_law_steps (hG : TopOk G) {row : List Int} (h4 : 3 ≤ row.length) (hl : row.length ≤ 1000) : Cal G (n + 1) (.ref 286) [⟨tList tInt,row⟩] mu tLP (lawSteps row) mu:=by
 have ht:=lawTree_len row
 have hs:=tail_len row
 refine CodX.toCal (CodX.dfR (rho:=[none]) (ka:=[some ⟨tLI,row⟩]) (ok_law_steps hG) (bind1 b_law_steps) (fun env ca F hl=>?_) (fun env ca F hl _=>?_))
 ·obtain ⟨c0,rfl⟩:=ex1 hl
  next=>exact (.cons (.cel F (i:=0) rfl rfl (lb rfl)) .nil)
 ·obtain ⟨c0,rfl⟩:=ex1 hl
  next =>
   refine Ex.asg (.addL (.listD (T:=(tPair tInt tInt)) (.cons (.pair .intC .intC) .nil) (by walk_at "sc")) (.map (T:=tInt) (U:=(tPair tInt tInt)) (fun x1 : Int=>(((List.getD row (Int.toNat (x1 - (2 : Int))) 0) % x1),x1)) F (csc_of (ln:=["k"]) (cn:=[]) (fn:=["row"]) (gn:=[]) (by decide +kernel)) (.consF F (i:=0) rfl rfl .nil) (.range (.callT (.glb F (i:=0) rfl (g_range hG)) (.cons .intC (.cons .intC .nil)) cal_range2) (by walk_at "sc") (by walk_at "sc") (by walk_at "sc") (by walk_at "sc")) (by walk_at "sc") (fun e1 a1 B1 x1 h1=>match a1,B1.len with | [],_=>⟨[some ⟨tInt,x1⟩],[],rfl,(As.loc B1.F (i:=0) rfl (lb rfl)),(.pair (.fmod (.idxD (d:=0) (Ev.toL (.var (B1.S.cel (i:=0) rfl (F.celIn (i:=0) rfl rfl rfl) _).var)) (.sub (.var (B1.F.var (i:=0) rfl rfl)) .intC) (by walk_at "sc") (by walk_at "sc")) (.var (B1.F.var (i:=0) rfl rfl)) (by walk_at "sc")) (.var (B1.F.var (i:=0) rfl rfl)))⟩)) (by walk_at "sc")) (As.loc F (i:=0) rfl (lb rfl)) ?_
   exact Ex.ret (T:=tList (tPair tInt tInt)) (x:=lawSteps row) (.addL (.var (F.var (i:=0) rfl rfl)) (.map (T:=tInt) (U:=(tPair tInt tInt)) (fun x1 : Int=>((x1 % (5 : Int)),((1 : Int) + ((x1 / (5 : Int)) % (4 : Int))))) F (csc_of (ln:=["n"]) (cn:=[]) (fn:=[]) (gn:=[]) (by decide +kernel)) .nil (.list (.slice (Ev.toL (.var (F.celIn (i:=0) rfl rfl rfl).var)) (.some .intC) .none (by walk_at "sc"))) (by walk_at "sc") (fun e1 a1 B1 x1 h1=>match a1,B1.len with | [],_=>⟨[some ⟨tInt,x1⟩],[],rfl,(As.loc B1.F (i:=0) rfl (lb rfl)),(.pair (.fmod (.var (B1.F.var (i:=0) rfl rfl)) .intC (by walk_at "sc")) (.add .intC (.fmod (.fdiv (.var (B1.F.var (i:=0) rfl rfl)) .intC (by walk_at "sc") (by walk_at "sc")) .intC (by walk_at "sc"))))⟩)) (by walk_at "sc")) dropVS
theorem b_law_chains (a : Value) : bindArgs fd_law_chains ⟨[a],[]⟩ = pure [(("steps" : Str),a)]:=by rw [bindF_eq]; kernel_rfl
noncomputable def lcCome (steps : List (Int × Int)) (shut : Int) : Nat → List Int
 | 0=>(pySlice [(0 : Int)] none (some shut))
 | k + 1=>((lcCome steps shut k) ++ (List.map (fun x1 : Int × Int=>x1.2) (List.filter (fun x1 : Int × Int=>((decide (x1.1 ∈ (lcCome steps shut k))) && ((!decide (x1.2 = shut)) && ((!decide (x1.2 ∈ (lcCome steps shut k))) && true)))) steps)))
noncomputable def lcFound (steps : List (Int × Int)) : List (List Int):=(intRange 0 5).map fun shut=>lcCome steps shut 4
noncomputable def lcOver (found : List (List Int)) : List (List Int):=(List.map (fun x1 : Int=>(List.map (fun x2 : Int=>x2) (List.filter (fun x2 : Int=>((decide (x2 = x1)) || ((!decide (x1 ∈ (List.getD found (Int.toNat x2) []))) || false))) (intRange 0 (5 : Int))))) (intRange 0 (5 : Int)))
noncomputable def lcKey (over : List (List Int)) (d : Int) : Int:=((over.getD d.toNat []).length : Int)
structure LcFit (steps : List (Int × Int)) : Prop where
 len : steps.length ≤ 1000
 keys : ∀ chain ∈ lcOver (lcFound steps),chain.Pairwise fun a b=>lcKey (lcOver (lcFound steps)) a < lcKey (lcOver (lcFound steps)) b
theorem lcCome_len (steps : List (Int × Int)) (shut : Int) : ∀ k,(lcCome steps shut k).length ≤ 1 + k * steps.length
 | 0=>by
  show (pySlice [(0 : Int)] none (some shut)).length ≤ _
  unfold pySlice
  simp only [List.length_take,List.length_drop,List.length_cons,List.length_nil]
  lia
 | k + 1=>by
  have ih:=lcCome_len steps shut k
  show (lcCome steps shut k ++ _).length ≤ _
  rw [List.length_append,List.length_map]
  have h2:=List.length_filter_le (fun x1 : Int × Int=>decide (x1.1 ∈ lcCome steps shut k) && (!decide (x1.2 = shut) && (!decide (x1.2 ∈ lcCome steps shut k) && true))) steps
  have : (k + 1) * steps.length = k * steps.length + steps.length:=by rw [Nat.add_mul,Nat.one_mul]
  lia
theorem lcOver_mem {found : List (List Int)} {chain : List Int} (h : chain ∈ lcOver found) : chain.length ≤ 5 ∧ ∀ d ∈ chain,0 ≤ d ∧ d < 5:=by
 unfold lcOver at h
 obtain ⟨v,_,rfl⟩:=List.mem_map.mp h
 rw [List.map_id']
 exact ⟨Nat.le_trans (List.length_filter_le _ _) (by rw [intRange_len]; decide),fun d hd=>mem_intRange.mp (List.mem_filter.mp hd).1⟩
theorem getD_len {found : List (List Int)} (i : Nat) : ((lcOver found).getD i []).length ≤ 5:=by
 rw [List.getD_eq_getElem?_getD]
 cases h : (lcOver found)[i]? with
 | none=>simp
 | some c=>exact (lcOver_mem (List.mem_of_getElem? h)).1
theorem hCode (hG : TopOk G) (hTB : G.TB = 288) : CodeOk G 290 288:=⟨hTB,_,_,_,_,_,_,_,_,_,(hG.at (a:=290) rfl).1,(hG.at (a:=290) rfl).2,rfl,rfl,rfl,rfl,rfl,rfl,rfl,rfl⟩
theorem sorted_same {α : Type} {kf : α → Int} : ∀ {xs zs : List α},zs.Perm xs → zs.Pairwise (fun p q=>kf p ≤ kf q) → xs.Pairwise (fun p q=>kf p < kf q) → zs = xs
 | [],zs,p,_,_=>List.Perm.eq_nil p
 | x :: xs,[],p,_,_=>(List.Perm.eq_nil p.symm).symm
 | x :: xs,z :: zs,p,hz,hx=>by
  have hx':=List.pairwise_cons.mp hx
  have hz':=List.pairwise_cons.mp hz
  have e : z = x:=by
   rcases List.mem_cons.mp (p.mem_iff.mp (List.mem_cons_self (a:=z) (l:=zs))) with h | h
   ·exact h
   ·rcases List.mem_cons.mp (p.mem_iff.mpr (List.mem_cons_self (a:=x) (l:=xs))) with h2 | h2
    ·exact h2.symm
    ·have h3:=hx'.1 z h
     have h4:=hz'.1 x h2
     lia
  subst e
  rw [sorted_same ((List.perm_cons z).mp p) hz'.2 hx'.2]
set_option maxHeartbeats 2000000 in
theorem cal_law_chains (hG : TopOk G) (hTB : G.TB = 288) {steps : List (Int × Int)} (hf : LcFit steps) : Cal G (n + 3) (.ref 291) [⟨tList (tPair tInt tInt),steps⟩] [rTab 288 ⟨236,30,236,52⟩] tLL (lcOver (lcFound steps)) [rTab 288 ⟨236,30,236,52⟩]:=by
 have hsl:=hf.len
 refine CodX.toCal (CodX.dfR (rho:=[some ⟨tLP,steps⟩,none]) (ka:=[none,none,none,none]) (ok_law_chains hG) (bind1 b_law_chains) (fun env ca F hl=>?_) (fun env ca F hl hcode=>?_))
 ·obtain ⟨c0,c1,c2,c3,rfl⟩:=ex4 hl
  next=>exact (.cons (.loc F (i:=0) rfl (lb rfl)) .nil)
 ·obtain ⟨c0,c1,c2,c3,rfl⟩:=ex4 hl
  next =>
   refine Ex.newListC (T:=tList tInt) (xs:=[]) (i:=0) F rfl rfl (lb rfl) .nil (by decide) fun a=>?_
   refine Ex.forK (T:=tInt) (fun k=>VS env.locals ["steps", "turn"] [some ⟨tList (tPair tInt tInt),steps⟩,none] [c0,c1,c2,c3] [some ⟨tVal,.ref a⟩,none,none,none] ++ (rList a tLI ((lcFound steps).take k) :: [rTab 288 ⟨236,30,236,52⟩])) (.range (.callT (.glb F (i:=0) rfl (g_range hG)) (.cons .intC .nil) cal_range1) (by walk_at "sc") (by walk_at "sc") (by walk_at "sc") (by walk_at "sc")) (fun k shut hx=>⟨_,(As.cel F (i:=1) rfl rfl (lb rfl)),?_⟩) ?_
   ·have hsm:=mem_intRange.mp (List.mem_of_getElem? hx)
    refine Ex.asg (.slice (Ev.toL (.listD (T:=tInt) (.cons .intC .nil) (by walk_at "sc"))) .none (.some (.var (F.celIn (i:=1) rfl rfl rfl).var)) (by walk_at "sc")) (As.cel F (i:=2) rfl rfl (lb rfl)) ?_
    refine Ex.forK (T:=tInt) (fun j=>VS env.locals ["steps", "turn"] [some ⟨tList (tPair tInt tInt),steps⟩,none] [c0,c1,c2,c3] [some ⟨tVal,.ref a⟩,some ⟨tInt,shut⟩,some ⟨tList tInt,lcCome steps shut j⟩,none] ++ (rList a tLI ((lcFound steps).take k) :: [rTab 288 ⟨236,30,236,52⟩])) (.range (.callT (.glb F (i:=0) rfl (g_range hG)) (.cons .intC .nil) cal_range1) (by walk_at "sc") (by walk_at "sc") (by walk_at "sc") (by walk_at "sc")) (fun j turn hj=>⟨_,(As.loc F (i:=1) rfl (lb rfl)),?_⟩) ?_
    ·have hcl:=lcCome_len steps shut j
     have hj4 : j < 4:=by have:=(List.getElem?_eq_some_iff.mp hj).1; rw [intRange_len] at this; lia
     have hjl : j * steps.length ≤ 4 * 1000:=Nat.mul_le_mul (by lia) hsl
     refine Ex.asg (.addL (.var (F.celIn (i:=2) rfl rfl rfl).var) (.sift (T:=(tPair tInt tInt)) (U:=tInt) (fun x1 : Int × Int=>((decide (x1.1 ∈ (lcCome steps shut j))) && ((!decide (x1.2 = shut)) && ((!decide (x1.2 ∈ (lcCome steps shut j))) && true)))) (fun x1 : Int × Int=>x1.2) F (csc_of (ln:=["u", "v"]) (cn:=[]) (fn:=["come", "shut"]) (gn:=[]) (by decide +kernel)) (.consF F (i:=2) rfl rfl (.consF F (i:=1) rfl rfl .nil)) (.list (.var (F.var (i:=0) rfl rfl))) (by walk_at "sc") (fun e1 a1 B1 x1 h1=>match a1,B1.len with | [],_=>⟨[some ⟨tInt,x1.1⟩,some ⟨tInt,x1.2⟩],[],rfl,(As.pair (As.loc B1.F (i:=0) rfl (lb rfl)) (As.loc B1.F (i:=1) rfl (lb rfl))),(.boolOp (.andP (.inL (eqTy_int (d:=0)) det_int (.var (B1.F.var (i:=0) rfl rfl)) (Ev.toL (.var (B1.S.cel (i:=0) rfl (F.celIn (i:=2) rfl rfl rfl) _).var))) (fun hc=>(.andP (.ofCmp cmp_neI (.var (B1.F.var (i:=1) rfl rfl)) (.var (B1.S.cel (i:=1) rfl (F.celIn (i:=1) rfl rfl rfl) _).var)) (fun hc=>(.andP (.notInL (eqTy_int (d:=0)) det_int (.var (B1.F.var (i:=1) rfl rfl)) (Ev.toL (.var (B1.S.cel (i:=0) rfl (F.celIn (i:=2) rfl rfl rfl) _).var))) (fun hc=>.andNil))))))),fun hp1=>(.var (B1.F.var (i:=1) rfl rfl))⟩)) (by rw [List.length_map]; exact Nat.le_trans (Nat.add_le_add hcl (List.length_filter_le _ _)) (by rw [sizeLine_nat]; lia))) (As.cel F (i:=2) rfl rfl (lb rfl)) ?_
     exact Ex.endTo (Wk.forget (by walk_at "forget"))
    ·have hfl : ((lcFound steps).take k).length ≤ 5:=by rw [List.length_take]; unfold lcFound; rw [List.length_map,intRange_len]; lia
     refine Ex.app (T:=tList tInt) (x:=lcCome steps shut 4) (i:=0) F (.var (F.celIn (i:=0) rfl rfl rfl).var) (.var (F.celIn (i:=2) rfl rfl rfl).var) rfl (by lia) ?_
     have e : (lcFound steps).take (k + 1) = (lcFound steps).take k ++ [lcCome steps shut 4]:=take_snoc (by unfold lcFound; rw [List.getElem?_map,hx]; rfl)
     rw [e]
     exact Ex.endTo (Wk.forgetA (by walk_at "forget") (by walk_at "forget"))
   ·refine Ex.ghost (WkG.frzC (i:=0) (j:=0) rfl rfl rfl) ?_
    have e : (lcFound steps).take (intRange 0 (5 : Int)).length = lcFound steps:=List.take_of_length_le (by unfold lcFound; rw [List.length_map]; exact Nat.le_refl _)
    rw [e]
    have hfl : (lcFound steps).length = 5:=by unfold lcFound; rw [List.length_map]; rfl
    have hol : (lcOver (lcFound steps)).length = 5:=by unfold lcOver; rw [List.length_map]; rfl
    refine Ex.asg (.map (T:=tInt) (U:=tLI) (fun x1 : Int=>(List.map (fun x2 : Int=>x2) (List.filter (fun x2 : Int=>((decide (x2 = x1)) || ((!decide (x1 ∈ (List.getD (lcFound steps) (Int.toNat x2) []))) || false))) (intRange 0 (5 : Int))))) F (csc_of (ln:=[]) (cn:=["v"]) (fn:=["found"]) (gn:=["range"]) (by decide +kernel)) (.consF F (i:=0) rfl rfl .nil) (.range (.callT (.glb F (i:=0) rfl (g_range hG)) (.cons .intC .nil) cal_range1) (by walk_at "sc") (by walk_at "sc") (by walk_at "sc") (by walk_at "sc")) (by walk_at "sc") (fun e1 a1 B1 x1 h1=>match a1,B1.len with | [c1_0],_=>⟨[],[some ⟨tInt,x1⟩],rfl,(As.cel B1.F (i:=0) rfl rfl (lb rfl)),(.sift (T:=tInt) (U:=tInt) (fun x2 : Int=>((decide (x2 = x1)) || ((!decide (x1 ∈ (List.getD (lcFound steps) (Int.toNat x2) []))) || false))) (fun x2 : Int=>x2) B1.F (csc_of (ln:=["d"]) (cn:=[]) (fn:=["found", "v"]) (gn:=[]) (by decide +kernel)) (.consS B1.S (i:=0) rfl (.consF B1.F (i:=0) rfl rfl .nil)) (.range (.callT (.glb B1.F (i:=0) rfl (g_range hG)) (.cons .intC .nil) cal_range1) (by walk_at "sc") (by walk_at "sc") (by walk_at "sc") (by walk_at "sc")) (by walk_at "sc") (fun e2 a2 B2 x2 h2=>match a2,B2.len with | [],_=>⟨[some ⟨tInt,x2⟩],[],rfl,(As.loc B2.F (i:=0) rfl (lb rfl)),(.boolOp (.orP (.ofCmp cmp_eqI (.var (B2.F.var (i:=0) rfl rfl)) (.var (B2.S.cel (i:=1) rfl (B1.F.celIn (i:=0) rfl rfl rfl) _).var)) (fun hc=>(.orP (.notInL (eqTy_int (d:=0)) det_int (.var (B2.S.cel (i:=1) rfl (B1.F.celIn (i:=0) rfl rfl rfl) _).var) (Ev.toL (.idxD (d:=[]) (Ev.toL (.var (B2.S.cel (i:=0) rfl (B1.S.cel (i:=0) rfl (F.celIn (i:=0) rfl rfl rfl) _) _).var)) (.var (B2.F.var (i:=0) rfl rfl)) (by walk_at "sc") (by walk_at "sc")))) (fun hc=>.orNil))))),fun hp2=>(.var (B2.F.var (i:=0) rfl rfl))⟩))⟩)) (As.cel F (i:=3) rfl rfl (lb rfl)) ?_ rfl (swC F (i:=3) rfl) rfl
    refine Ex.ret (T:=tList tLI) (x:=lcOver (lcFound steps)) (Ev.conv (.map (T:=tLI) (U:=tLI) (fun x1 : List Int=>x1) F (csc_of (ln:=["chain"]) (cn:=[]) (fn:=["over"]) (gn:=["sorted"]) (by decide +kernel)) (.consF F (i:=3) rfl rfl .nil) (.list (.var (F.celIn (i:=3) rfl rfl rfl).var)) (by walk_at "sc") (fun e1 a1 B1 x1 h1=>match a1,B1.len with | [],_=>⟨[some ⟨tLI,x1⟩],[],rfl,(As.loc B1.F (i:=0) rfl (lb rfl)),(.sortedLam (T:=tInt) (nm:="d") (kf:=fun x2 : Int=>((List.length (List.getD (lcOver (lcFound steps)) (Int.toNat x2) []) : Nat) : Int)) (i:=5) hG.t hG.bm (hCode hG hTB) (B1.code.trans hcode) B1.F.glob (.glb B1.F (i:=0) rfl (g_sorted hG)) (.var (B1.F.var (i:=0) rfl rfl)) (csc_of (ln:=["d"]) (cn:=[]) (fn:=["over"]) (gn:=["len"]) (by decide +kernel)) (.consS B1.S (i:=0) rfl .nil) rfl rfl rfl rfl rfl rfl (fun _=>by kernel_rfl) (by have:=(lcOver_mem h1).1; lia) (fun x2 h2 e2 F2 S2=>(.callB (.glb F2 (i:=0) rfl (g_len hG)) (.cons (.idxD (d:=[]) (Ev.toL (.var (S2.cel (i:=0) rfl (B1.S.cel (i:=0) rfl (F.celIn (i:=3) rfl rfl rfl) _) _).var)) (.var (F2.var (i:=0) rfl rfl)) (by have:=(lcOver_mem h1).2 x2 h2; lia) (by walk_at "sc")) .nil) (cal_lenL (by have:=getD_len (found:=lcFound steps) x2.toNat; rw [sizeLine_nat]; lia)))) (fun zs p hz=>sorted_same p hz (hf.keys x1 h1)))⟩)) (List.map_id' _)) dropVS
end
noncomputable def spell (l : List Bool) : Str:=Txt.join ("" : Str) (l.map fun b=>Txt.item ("oO" : Str) (if b then 1 else 0))
noncomputable def bitsOf (m : Int) (k : Nat) : List Bool:=(List.range k).map fun j=>decide ((m / (2 : Int) ^ j) % 2 = 1)
theorem lawCall_spell {y : Int} (h : 0 ≤ y) (m : Int) : lawCall y m = spell (bitsOf m (y + 1).toNat):=by
 unfold lawCall spell bitsOf intRange
 rw [List.map_map,List.map_map]
 congr 1
 have e : (y + 1 - 0).toNat = (y + 1).toNat:=by congr 1; lia
 rw [e]
 refine List.map_congr_left fun j hj=>?_
 simp only [Function.comp]
 have e2 : Int.toNat (0 + (j : Int)) = j:=by lia
 rw [e2]
 have h2 : (m / (2 : Int) ^ j) % 2 = 0 ∨ (m / (2 : Int) ^ j) % 2 = 1:=by lia
 have h3 : (if decide ((m / (2 : Int) ^ j) % 2 = 1) = true then (1 : Int) else 0) = (m / (2 : Int) ^ j) % 2:=by
  rcases h2 with h2 | h2
  ·rw [if_neg (by rw [h2]; decide),h2]
  ·rw [if_pos (by rw [h2]; decide),h2]
 exact (congrArg (Txt.item _) h3).symm
noncomputable def baseC (y : Int) : Str:=lawCall y 0
noncomputable def allB : Nat → List (List Bool)
 | 0=>[[]]
 | k + 1=>(allB k).flatMap fun l=>[false :: l,true :: l]
theorem mem_allB : ∀ (l : List Bool),l ∈ allB l.length
 | []=>List.mem_singleton.mpr rfl
 | b :: l=>by
  show b :: l ∈ (allB l.length).flatMap _
  refine List.mem_flatMap.mpr ⟨l,mem_allB l,?_⟩
  cases b <;> simp
noncomputable def cleanB (x : Str) : Bool:=x.cps.toList.all fun c=>[46,79,82,111,114].contains c
theorem clean_of {x : Str} (h : cleanB x = true) : Clean x:=fun i hi=>by
 have h1:=List.all_eq_true.mp h (x.cps.getD i 0) (by
  rw [Array.getD_eq_getD_getElem?,Array.getElem?_eq_getElem hi]
  simp)
 exact List.contains_iff_mem.mp h1
noncomputable def spellOk (k : Nat) : Bool:=(allB k).all fun l=>cleanB (spell l) && (spell l).length == k && Txt.lower (spell l) == spell (List.replicate k false) && cleanB (Txt.lower (spell l))
theorem spell_ok1 : spellOk 1 = true:=by decide +kernel
theorem spell_ok2 : spellOk 2 = true:=by decide +kernel
theorem spell_ok3 : spellOk 3 = true:=by decide +kernel
theorem spell_ok4 : spellOk 4 = true:=by decide +kernel
theorem spell_ok5 : spellOk 5 = true:=by decide +kernel
theorem bitsOf_len (m : Int) (k : Nat) : (bitsOf m k).length = k:=by unfold bitsOf; simp
theorem spell_all {k : Nat} (h : 0 < k ∧ k ≤ 5) : spellOk k = true:=by
 have : k = 1 ∨ k = 2 ∨ k = 3 ∨ k = 4 ∨ k = 5:=by lia
 rcases this with rfl | rfl | rfl | rfl | rfl
 ·exact spell_ok1
 ·exact spell_ok2
 ·exact spell_ok3
 ·exact spell_ok4
 ·exact spell_ok5
theorem bits_zero (k : Nat) : bitsOf 0 k = List.replicate k false:=by
 unfold bitsOf
 rw [List.eq_replicate_iff]
 refine ⟨by simp,fun b hb=>?_⟩
 obtain ⟨j,_,rfl⟩:=List.mem_map.mp hb
 rw [Int.zero_ediv]; decide
theorem call_facts {y : Int} (h : 0 ≤ y ∧ y < 5) (m : Int) : Clean (lawCall y m) ∧ ((lawCall y m).length : Int) = y + 1 ∧ Txt.lower (lawCall y m) = baseC y ∧ Clean (Txt.lower (lawCall y m)):=by
 have h1:=spell_all (k:=(y + 1).toNat) (by lia)
 have h2:=List.all_eq_true.mp h1 (bitsOf m (y + 1).toNat) (by
  have:=mem_allB (bitsOf m (y + 1).toNat)
  rwa [bitsOf_len] at this)
 unfold baseC
 rw [lawCall_spell h.1,lawCall_spell h.1,bits_zero]
 simp only [Bool.and_eq_true,beq_iff_eq] at h2
 obtain ⟨⟨⟨a,b⟩,c⟩,d⟩:=h2
 exact ⟨clean_of a,by rw [b]; lia,c,clean_of d⟩
theorem call_len {y : Int} (h : 0 ≤ y ∧ y < 5) (m : Int) : (lawCall y m).length ≤ 5:=by have:=(call_facts h m).2.1; lia
theorem call_clean {y : Int} (h : 0 ≤ y ∧ y < 5) (m : Int) : Clean (lawCall y m):=(call_facts h m).1
theorem call_cleanL {y : Int} (h : 0 ≤ y ∧ y < 5) (m : Int) : Clean (Txt.lower (lawCall y m)):=(call_facts h m).2.2.2
theorem call_lower {y : Int} (h : 0 ≤ y ∧ y < 5) (m : Int) : Txt.lower (lawCall y m) = baseC y:=(call_facts h m).2.2.1
theorem base_inj {y z : Int} (h : 0 ≤ y ∧ y < 5) (h' : 0 ≤ z ∧ z < 5) (e : baseC y = baseC z) : y = z:=by
 have h1:=(call_facts h 0).2.1
 have h2:=(call_facts h' 0).2.1
 have e : lawCall y 0 = lawCall z 0:=e
 rw [e] at h1; lia
noncomputable def chainsTo : Nat → List (List Int)
 | 0=>[[0]]
 | v + 1=>(((List.range v).foldl (fun acc d=>acc ++ acc.map (· ++ [((d + 1 : Nat) : Int)])) [[0]])).map (· ++ [((v + 1 : Nat) : Int)])
noncomputable def allChains : List (List Int):=(List.range 5).flatMap chainsTo
noncomputable def nameOf (c : List Int) : Str:=Txt.join ("." : Str) (List.map (fun x2 : Int=>(lawCall x2 (0 : Int))) c)
noncomputable def pathOf (s : Str) : Str:=("/" : Str) ++ (Txt.replace s ("." : Str) ("/" : Str))
noncomputable def folderOf (s : Str) : Str:=(("/" : Str) ++ (Txt.replace s ("." : Str) ("//" : Str))) ++ ("/." : Str)
noncomputable def lastOf (s : Str) : Str:=List.getLastD (Txt.split s ("." : Str)) Str.empty
structure NmOk (s : Str) : Prop where
 len : s.length ≤ 30
 clean : Clean s
 r1 : (Txt.replace s ("." : Str) ("/" : Str)).length ≤ 40
 r2 : (Txt.replace s ("." : Str) ("//" : Str)).length ≤ 60
 mp : ModOk (pathOf s)
 mn : ModOk (("/" : Str) ++ s)
 nf : NormOk (folderOf s)
 np : normP (folderOf s) = pathOf s
 spl : 0 < (Txt.split s ("." : Str)).length ∧ (Txt.split s ("." : Str)).length ≤ 10
 spc : Clean (lastOf s) ∧ (lastOf s).length ≤ 10 ∧ Clean (Txt.lower (lastOf s))
 ne : s ≠ "<string>" ∧ s.length ≠ 0
noncomputable def modChk (p : Str) : Bool:=decide (p.length ≤ 1000) && decide ((basenameP p).length ≤ 1000) && decide (Txt.rfind (basenameP p) "/" < Txt.rfind (basenameP p) "." → Txt.rfind (basenameP p) "/" + 1 < Txt.rfind (basenameP p) "." ∧ Txt.slice (basenameP p) (some (Txt.rfind (basenameP p) "/" + 1)) (some (Txt.rfind (basenameP p) "/" + 1 + 1)) ≠ ".")
theorem mod_of {p : Str} (h : modChk p = true) : ModOk p:=by
 unfold modChk at h
 simp only [Bool.and_eq_true,decide_eq_true_eq] at h
 exact ⟨h.1.1,h.1.2,h.2⟩
noncomputable def normChk (p : Str) : Bool:=decide (p.length ≤ 1000) && decide (Txt.slice p none (some 1) = "/") && decide (Txt.slice p (some 1) (some 2) ≠ "/") && (Txt.split (Txt.slice p (some 1) none) "/").all (fun c=>decide (c ≠ "..") && decide (c.length ≤ 1000)) && decide ((Txt.split (Txt.slice p (some 1) none) "/").length ≤ 1000)
theorem norm_of {p : Str} (h : normChk p = true) : NormOk p:=by
 unfold normChk at h
 simp only [Bool.and_eq_true,decide_eq_true_eq,List.all_eq_true] at h
 exact ⟨h.1.1.1.1,h.1.1.1.2,h.1.1.2,fun c hc=>h.1.2 c hc,h.2⟩
noncomputable def nmChk (s : Str) : Bool:=decide (s.length ≤ 30) && cleanB s && decide ((Txt.replace s ("." : Str) ("/" : Str)).length ≤ 40) && decide ((Txt.replace s ("." : Str) ("//" : Str)).length ≤ 60) && modChk (pathOf s) && modChk (("/" : Str) ++ s) && normChk (folderOf s) && decide (normP (folderOf s) = pathOf s) && decide (0 < (Txt.split s ("." : Str)).length ∧ (Txt.split s ("." : Str)).length ≤ 10) && (cleanB (lastOf s) && decide ((lastOf s).length ≤ 10) && cleanB (Txt.lower (lastOf s))) && decide (s ≠ "<string>" ∧ s.length ≠ 0)
theorem nm_of {s : Str} (h : nmChk s = true) : NmOk s:=by
 unfold nmChk at h
 simp only [Bool.and_eq_true,decide_eq_true_eq] at h
 obtain ⟨⟨⟨⟨⟨⟨⟨⟨⟨⟨a,b⟩,c⟩,d⟩,e⟩,f⟩,g⟩,i⟩,j⟩,k⟩,l⟩:=h
 exact ⟨a,clean_of b,c,d,mod_of e,mod_of f,norm_of g,i,j,⟨clean_of k.1.1,k.1.2,clean_of k.2⟩,l⟩
theorem chain_mem {c : List Int} (h : c ∈ allChains) : c.length ≤ 5 ∧ ∀ d ∈ c,0 ≤ d ∧ d < 5:=by
 have key : ∀ c ∈ allChains,c.length ≤ 5 ∧ ∀ d ∈ c,0 ≤ d ∧ d < 5:=by decide +kernel
 exact key c h
theorem all_names : (allChains.map nameOf).all nmChk = true:=by decide +kernel
theorem nmOk {c : List Int} (h : c ∈ allChains) : NmOk (nameOf c):=nm_of (List.all_eq_true.mp all_names _ (List.mem_map.mpr ⟨c,h,rfl⟩))
local macro_rules | `(tactic| walk_at "sc")=>`(tactic| first | assumption | lia | (refine addf_le ?_; rw [sizeLine_nat]; lia) | (simp only [sizeLine_nat,intRange_len,List.length_map,List.length_append,List.length_cons,List.length_nil,List.length_drop,List.length_take,mem_intRange] at *; lia))
section
variable {G : Gl} {n : Nat} {env : Env} {mu mu₁ mu₂ W R : List Res} {id : Str} {p' p2 pos q ap : Pos}
theorem b_law_ahead (a b c : Value) : bindArgs fd_law_ahead ⟨[a,b,c],[]⟩ = pure [(("steps" : Str),a),(("maker" : Str),b),(("come" : Str),c)]:=by rw [bindF_eq]; kernel_rfl
noncomputable def ahCome (steps : List (Int × Int)) (maker : Int) (come : List Int) : Nat → List Int
 | 0=>come
 | k + 1=>((ahCome steps maker come k) ++ (List.map (fun x1 : Int × Int=>x1.1) (List.filter (fun x1 : Int × Int=>((decide (x1.2 ∈ (ahCome steps maker come k))) && ((!decide (x1.1 = maker)) && ((!decide (x1.1 ∈ (ahCome steps maker come k))) && true)))) steps)))
theorem ahCome_len (steps : List (Int × Int)) (maker : Int) (come : List Int) : ∀ k,(ahCome steps maker come k).length ≤ come.length + k * steps.length
 | 0=>by show come.length ≤ _; lia
 | k + 1=>by
  have ih:=ahCome_len steps maker come k
  show (ahCome steps maker come k ++ _).length ≤ _
  rw [List.length_append,List.length_map]
  refine Nat.le_trans (Nat.add_le_add ih (List.length_filter_le _ _)) ?_
  have : (k + 1) * steps.length = k * steps.length + steps.length:=by rw [Nat.add_mul,Nat.one_mul]
  lia
theorem cal_law_ahead (hG : TopOk G) {steps : List (Int × Int)} {maker : Int} {come : List Int} (hsl : steps.length ≤ 1000) (hcl : come.length ≤ 1000) : Cal G (n + 1) (.ref 296) [⟨tList (tPair tInt tInt),steps⟩,⟨tInt,maker⟩,⟨tList tInt,come⟩] mu tLI (ahCome steps maker come 4) mu:=by
 refine CodX.toCal (CodX.dfR (rho:=[some ⟨tLP,steps⟩,none]) (ka:=[some ⟨tInt,maker⟩,some ⟨tLI,come⟩]) (ps:=[("steps", ⟨tLP,steps⟩),("maker", ⟨tInt,maker⟩),("come", ⟨tLI,come⟩)]) (ok_law_ahead hG) (bind3 b_law_ahead) (fun env ca F hl=>?_) (fun env ca F hl hcode=>?_))
 ·obtain ⟨c0,c1,rfl⟩:=ex2 hl
  next=>exact (.cons (.loc F (i:=0) rfl (lb rfl)) (.cons (.cel F (i:=0) rfl rfl (lb rfl)) (.cons (.cel F (i:=1) rfl rfl (lb rfl)) .nil)))
 ·obtain ⟨c0,c1,rfl⟩:=ex2 hl
  next =>
   refine Ex.forK (T:=tInt) (fun k=>VS env.locals ["steps", "turn"] [some ⟨tList (tPair tInt tInt),steps⟩,none] [c0,c1] [some ⟨tInt,maker⟩,some ⟨tList tInt,ahCome steps maker come k⟩] ++ mu) (.range (.callT (.glb F (i:=0) rfl (g_range hG)) (.cons .intC .nil) cal_range1) (by walk_at "sc") (by walk_at "sc") (by walk_at "sc") (by walk_at "sc")) (fun k turn hx=>⟨_,(As.loc F (i:=1) rfl (lb rfl)),?_⟩) ?_
   ·have hj4 : k < 4:=by have:=(List.getElem?_eq_some_iff.mp hx).1; rw [intRange_len] at this; lia
    have hjl : k * steps.length ≤ 4 * 1000:=Nat.mul_le_mul (by lia) hsl
    have hch:=ahCome_len steps maker come k
    refine Ex.asg (.addL (.var (F.celIn (i:=1) rfl rfl rfl).var) (.sift (T:=(tPair tInt tInt)) (U:=tInt) (fun x1 : Int × Int=>((decide (x1.2 ∈ (ahCome steps maker come k))) && ((!decide (x1.1 = maker)) && ((!decide (x1.1 ∈ (ahCome steps maker come k))) && true)))) (fun x1 : Int × Int=>x1.1) F (csc_of (ln:=["u", "v"]) (cn:=[]) (fn:=["come", "maker"]) (gn:=[]) (by decide +kernel)) (.consF F (i:=1) rfl rfl (.consF F (i:=0) rfl rfl .nil)) (.list (.var (F.var (i:=0) rfl rfl))) (by walk_at "sc") (fun e1 a1 B1 x1 h1=>match a1,B1.len with | [],_=>⟨[some ⟨tInt,x1.1⟩,some ⟨tInt,x1.2⟩],[],rfl,(As.pair (As.loc B1.F (i:=0) rfl (lb rfl)) (As.loc B1.F (i:=1) rfl (lb rfl))),(.boolOp (.andP (.inL (eqTy_int (d:=0)) det_int (.var (B1.F.var (i:=1) rfl rfl)) (Ev.toL (.var (B1.S.cel (i:=0) rfl (F.celIn (i:=1) rfl rfl rfl) _).var))) (fun hc=>(.andP (.ofCmp cmp_neI (.var (B1.F.var (i:=0) rfl rfl)) (.var (B1.S.cel (i:=1) rfl (F.celIn (i:=0) rfl rfl rfl) _).var)) (fun hc=>(.andP (.notInL (eqTy_int (d:=0)) det_int (.var (B1.F.var (i:=0) rfl rfl)) (Ev.toL (.var (B1.S.cel (i:=0) rfl (F.celIn (i:=1) rfl rfl rfl) _).var))) (fun hc=>.andNil))))))),fun hp1=>(.var (B1.F.var (i:=0) rfl rfl))⟩)) (by rw [List.length_map]; exact Nat.le_trans (Nat.add_le_add hch (List.length_filter_le _ _)) (by rw [sizeLine_nat]; lia))) (As.cel F (i:=1) rfl rfl (lb rfl)) ?_
    exact Ex.endTo (Wk.forget (by walk_at "forget"))
   ·exact Ex.ret (T:=tList tInt) (x:=ahCome steps maker come 4) (.var (F.celIn (i:=1) rfl rfl rfl).var) dropVS
end
theorem getAll_lenL (rows : List (Str × Str)) (nm : Str) : (getAll rows nm).length ≤ rows.length:=by
 unfold getAll; rw [List.length_map]; exact List.length_filter_le _ _
theorem getAll_memL {rows : List (Str × Str)} {nm v : Str} (h : v ∈ getAll rows nm) : ∃ kv ∈ rows,kv.2 = v:=by
 unfold getAll at h
 obtain ⟨kv,h1,h2⟩:=List.mem_map.mp h
 exact ⟨kv,(List.mem_filter.mp h1).1,h2⟩
theorem getD_memL {α : Type} {l : List α} {i : Nat} {d : α} (h : i < l.length) : l.getD i d ∈ l:=by
 rw [List.getD_eq_getElem?_getD,List.getElem?_eq_getElem h]
 exact List.getElem_mem h
structure LEnv where
 heads : List (Str × Str)
 names : List Str
 maker : Int
 place : Int
structure LS where
 spots : List Int
 live : List (Str × Str)
noncomputable abbrev lyNm (E : LEnv) : Str:=E.names.getD E.maker.toNat Str.empty
noncomputable def lyP (E : LEnv) (spots : List Int) (p : Str) : List Int:=if (!decide (p = lyNm E)) && ((!decide ((E.names.idxOf p : Int) ∈ spots)) && true) then spots ++ [(E.names.idxOf p : Int)] else spots
noncomputable def lyAt (E : LEnv) (k : Int) (st : LS) (spot : Int) : LS :=
 if (!decide (lyNm E ∈ getAll st.live (lawCall spot 21))) then ⟨(getAll E.heads (lawCall spot 10)).foldl (lyP E) st.spots,st.live ++ [(lawCall spot (E.maker + E.place + k),lyNm E)]⟩ else st
noncomputable def lyTurn (E : LEnv) (st : LS) (k : Int) : LS:=(pySlice st.spots (some k) (some (k + 1))).foldl (lyAt E k) st
noncomputable def lyAll (E : LEnv) (st : LS) : LS:=(intRange 0 5).foldl (lyTurn E) st
structure LFit (E : LEnv) : Prop where
 hh : HdFit E.heads
 hl : E.heads.length ≤ 20
 names : E.names.length = 5
 nlen : ∀ s ∈ E.names,s.length ≤ 500 ∧ Clean s
 src : ∀ kv ∈ E.heads,kv.2 ∈ E.names
 maker : 0 ≤ E.maker ∧ E.maker < 5
 place : 0 ≤ E.place ∧ E.place < 5
structure LInv (E : LEnv) (m : Nat) (st : LS) : Prop where
 spots : st.spots.length ≤ 1 + 20 * m ∧ ∀ u ∈ st.spots,0 ≤ u ∧ u < 5
 live : st.live.length ≤ 300 + m ∧ ∀ kv ∈ st.live,kv.1.length ≤ 500 ∧ kv.2 ∈ E.names
theorem LInv.le {E : LEnv} {m m' : Nat} {st : LS} (h : LInv E m st) (hm : m ≤ m') : LInv E m' st:=⟨⟨by have:=h.spots.1; lia,h.spots.2⟩,⟨by have:=h.live.1; lia,h.live.2⟩⟩
theorem lyP_inv {E : LEnv} (hE : LFit E) {b : Nat} {sp : List Int} (h : sp.length ≤ b ∧ ∀ u ∈ sp,0 ≤ u ∧ u < 5) {p : Str} (hp : p ∈ E.names) : (lyP E sp p).length ≤ b + 1 ∧ ∀ u ∈ lyP E sp p,0 ≤ u ∧ u < 5:=by
 unfold lyP
 split
 ·refine ⟨by rw [List.length_append]; exact Nat.add_le_add h.1 (Nat.le_refl _),fun u hu=>?_⟩
  rcases List.mem_append.mp hu with hu | hu
  ·exact h.2 u hu
  ·rw [List.mem_singleton.mp hu]
   have:=List.idxOf_lt_length_of_mem hp
   have:=hE.names
   lia
 ·exact ⟨Nat.le_succ_of_le h.1,h.2⟩
theorem lyPs_inv {E : LEnv} (hE : LFit E) : ∀ (l : List Str) {b : Nat} {sp : List Int},(sp.length ≤ b ∧ ∀ u ∈ sp,0 ≤ u ∧ u < 5) → (∀ p ∈ l,p ∈ E.names) → (l.foldl (lyP E) sp).length ≤ b + l.length ∧ ∀ u ∈ l.foldl (lyP E) sp,0 ≤ u ∧ u < 5
 | [],_,_,h,_=>h
 | p :: l,b,sp,h,hl=>by
  have:=lyPs_inv hE l (lyP_inv hE h (hl p List.mem_cons_self)) (fun q hq=>hl q (List.mem_cons_of_mem _ hq))
  rw [List.foldl_cons,List.length_cons]
  exact ⟨by have:=this.1; lia,this.2⟩
theorem ly_src {E : LEnv} (hE : LFit E) {nm : Str} : ∀ p ∈ getAll E.heads nm,p ∈ E.names:=fun p hp=>by
 obtain ⟨kv,h1,h2⟩:=getAll_memL hp
 rw [← h2]; exact hE.src kv h1
theorem lyNm_mem {E : LEnv} (hE : LFit E) : lyNm E ∈ E.names:=getD_memL (by have:=hE.names; have:=hE.maker; lia)
theorem lyAt_inv {E : LEnv} (hE : LFit E) {m : Nat} {st : LS} (h : LInv E m st) {k spot : Int} (hs : 0 ≤ spot ∧ spot < 5) : LInv E (m + 1) (lyAt E k st spot):=by
 unfold lyAt
 split
 ·have h1:=lyPs_inv hE (getAll E.heads (lawCall spot 10)) h.spots (ly_src hE)
  have h2 : (getAll E.heads (lawCall spot 10)).length ≤ 20:=Nat.le_trans (getAll_lenL _ _) hE.hl
  refine ⟨⟨by have:=h1.1; show ((getAll E.heads (lawCall spot 10)).foldl (lyP E) st.spots).length ≤ _; lia,h1.2⟩,?_,fun kv hkv=>?_⟩
  ·show (st.live ++ _ : List (Str × Str)).length ≤ _
   rw [List.length_append]
   have:=h.live.1
   show _ + 1 ≤ _
   lia
  ·rcases List.mem_append.mp hkv with hkv | hkv
   ·exact h.live.2 kv hkv
   ·rw [List.mem_singleton.mp hkv]
    exact ⟨by have:=call_len hs (E.maker + E.place + k); show (lawCall _ _).length ≤ _; lia,lyNm_mem hE⟩
 ·exact h.le (Nat.le_succ _)
theorem lyAts_inv {E : LEnv} (hE : LFit E) {k : Int} : ∀ (l : List Int) {m : Nat} {st : LS},LInv E m st → (∀ u ∈ l,0 ≤ u ∧ u < 5) → LInv E (m + l.length) (l.foldl (lyAt E k) st)
 | [],_,_,h,_=>h
 | p :: l,m,st,h,hl=>by
  have:=lyAts_inv hE (k:=k) l (lyAt_inv hE h (k:=k) (hl p List.mem_cons_self)) (fun q hq=>hl q (List.mem_cons_of_mem _ hq))
  rw [List.foldl_cons,List.length_cons]
  exact this.le (by lia)
theorem lyTurn_inv {E : LEnv} (hE : LFit E) {m : Nat} {st : LS} (h : LInv E m st) {k : Int} (hk : 0 ≤ k) : LInv E (m + 1) (lyTurn E st k):=by
 unfold lyTurn
 rw [pySlice_one _ k hk]
 refine (lyAts_inv hE _ h fun u hu=>h.spots.2 u (List.mem_of_mem_drop (List.mem_of_mem_take hu))).le (by rw [List.length_take]; lia)
theorem lyTurns_inv {E : LEnv} (hE : LFit E) : ∀ (l : List Int) {m : Nat} {st : LS},LInv E m st → (∀ y ∈ l,0 ≤ y) → LInv E (m + l.length) (l.foldl (lyTurn E) st)
 | [],_,_,h,_=>h
 | p :: l,m,st,h,hl=>by
  have:=lyTurns_inv hE l (lyTurn_inv hE h (hl p List.mem_cons_self)) (fun q hq=>hl q (List.mem_cons_of_mem _ hq))
  rw [List.foldl_cons,List.length_cons]
  exact this.le (by lia)
theorem LInv.fit {E : LEnv} (hE : LFit E) {m : Nat} {st : LS} (h : LInv E m st) (hm : m ≤ 45) : HdFit st.live:=⟨by have:=h.live.1; lia,fun kv hk=>⟨by have:=(h.live.2 kv hk).1; lia,by have:=(hE.nlen _ (h.live.2 kv hk).2).1; lia⟩⟩
noncomputable def lyRes (sa la ha : Addr) (E : LEnv) (st : LS) : List Res:=[rList sa tInt st.spots,rHd la st.live,rHd ha E.heads]
section
variable {G : Gl} {n : Nat} {env : Env} {mu mu₁ mu₂ W R : List Res} {id : Str} {p' p2 pos q ap : Pos}
theorem b_law_lay (a b c d e : Value) : bindArgs fd_law_lay ⟨[a,b,c,d,e],[]⟩ = pure [(("live" : Str),a),(("heads" : Str),b),(("names" : Str),c),(("maker" : Str),d),(("place" : Str),e)]:=by rw [bindF_eq]; kernel_rfl
set_option maxHeartbeats 4000000 in
theorem cod_law_lay (hG : TopOk G) {E : LEnv} (hE : LFit E) {st : LS} (h0 : LInv E 0 st) (hsp : st.spots = [E.place]) {la ha : Addr} : CodX G (n + 6) (.ref 303) [⟨tH,la⟩,⟨tH,ha⟩,⟨tList tStr,E.names⟩,⟨tInt,E.maker⟩,⟨tInt,E.place⟩] []
  [rHd la st.live,rHd ha E.heads] (fun K v mu'=>mu' = [rHd la (lyAll E st).live,rHd ha E.heads] ∧ tNone.rel K v ()):=by
 have l1:=hE.names
 have hhl:=hE.hl
 have hmk:=hE.maker
 have hpl:=hE.place
 refine CodX.func (rho:=[some ⟨tH,la⟩,some ⟨tH,ha⟩,some ⟨tLS,E.names⟩,some ⟨tInt,E.maker⟩,some ⟨tInt,E.place⟩,none,none,none,none]) (ka:=[]) (mu₁:=[rHd la st.live,rHd ha E.heads]) (ps:=[("live", ⟨tH,la⟩),("heads", ⟨tH,ha⟩),("names", ⟨tLS,E.names⟩),("maker", ⟨tInt,E.maker⟩),("place", ⟨tInt,E.place⟩)]) (ok_law_lay hG) (bindP (vs0:=["live", "heads", "names", "maker", "place"]) (fun vs hl=>allV (P:=fun vs=>bindArgs _ ⟨vs,[]⟩ = pure (List.zip _ vs)) .none hl fun f=>b_law_lay (f 0) (f 1) (f 2) (f 3) (f 4)) rfl) (fun env ca F hl=>?_) (fun env ca F hl=>?_)
 ·obtain rfl:=ex0 hl
  next=>exact (.cons (.loc F (i:=0) rfl (lb rfl)) (.cons (.loc F (i:=1) rfl (lb rfl)) (.cons (.loc F (i:=2) rfl (lb rfl)) (.cons (.loc F (i:=3) rfl (lb rfl)) (.cons (.loc F (i:=4) rfl (lb rfl)) .nil)))))
 ·obtain rfl:=ex0 hl
  next =>
   refine Ex.newList (T:=tInt) (xs:=[E.place]) (i:=5) F rfl (lb rfl) (.cons (.var (F.var (i:=4) rfl rfl)) .nil) (lb rfl) fun sa=>?_
   rw [← hsp]
   refine Ex.forK (T:=tInt) (fun k=>VS env.locals ["live", "heads", "names", "maker", "place", "spots", "k", "spot", "p"] [some ⟨tH,la⟩,some ⟨tH,ha⟩,some ⟨tLS,E.names⟩,some ⟨tInt,E.maker⟩,some ⟨tInt,E.place⟩,some ⟨tVal,(.ref sa)⟩,none,none,none] [] [] ++ lyRes sa la ha E (((intRange 0 5).take k).foldl (lyTurn E) st)) (.range (.callT (.glb F (i:=0) rfl (g_range hG)) (.cons .intC .nil) cal_range1) (by walk_at "sc") (by walk_at "sc") (by walk_at "sc") (by walk_at "sc")) (fun k pt hx=>⟨_,(As.loc F (i:=6) rfl (lb rfl)),?_⟩) ?_
   ·have hk5 : k < 5:=by have:=(List.getElem?_eq_some_iff.mp hx).1; rw [intRange_len] at this; lia
    have hpt:=mem_intRange.mp (List.mem_of_getElem? hx)
    have hA:=lyTurns_inv hE ((intRange 0 5).take k) h0 (fun y hy=>(mem_intRange.mp (List.mem_of_mem_take hy)).1)
    rw [take_snoc hx,List.foldl_append]
    have hkl : ((intRange 0 5).take k).length = k:=by rw [List.length_take,intRange_len]; lia
    rw [hkl] at hA
    generalize ((intRange 0 5).take k).foldl (lyTurn E) st = sA at hA ⊢
    have hsl : (pySlice sA.spots (some pt) (some (pt + 1))).length ≤ 1:=by rw [pySlice_one _ _ hpt.1,List.length_take]; lia
    have hsA:=hA.spots.1
    refine Ex.forK (T:=tInt) (xs:=pySlice sA.spots (some pt) (some (pt + 1))) (fun j=>VS env.locals ["live", "heads", "names", "maker", "place", "spots", "k", "spot", "p"] [some ⟨tH,la⟩,some ⟨tH,ha⟩,some ⟨tLS,E.names⟩,some ⟨tInt,E.maker⟩,some ⟨tInt,E.place⟩,some ⟨tVal,(.ref sa)⟩,some ⟨tInt,pt⟩,none,none] [] [] ++ lyRes sa la ha E (((pySlice sA.spots (some pt) (some (pt + 1))).take j).foldl (lyAt E pt) sA)) (.list (.slice (Ev.toLI (i:=0) (.var (F.var (i:=5) rfl rfl)) rfl) (.some (.var (F.var (i:=6) rfl rfl))) (.some (.add (.var (F.var (i:=6) rfl rfl)) .intC)) (by walk_at "sc"))) (fun j spot hj=>⟨_,(As.loc F (i:=7) rfl (lb rfl)),?_⟩) ?_
    ·have hm:=List.mem_of_getElem? hj
     rw [pySlice_one _ _ hpt.1] at hm
     have hs5:=hA.spots.2 spot (List.mem_of_mem_drop (List.mem_of_mem_take hm))
     have hB:=lyAts_inv hE (k:=pt) ((pySlice sA.spots (some pt) (some (pt + 1))).take j) hA (fun u hu=>by
      have:=List.mem_of_mem_take hu
      rw [pySlice_one _ _ hpt.1] at this
      exact hA.spots.2 u (List.mem_of_mem_drop (List.mem_of_mem_take this)))
     rw [take_snoc hj,List.foldl_append]
     have hj0 : ((pySlice sA.spots (some pt) (some (pt + 1))).take j).length = 0:=by
      have h1:=(List.getElem?_eq_some_iff.mp hj).1
      rw [List.length_take]; lia
     rw [hj0] at hB
     generalize ((pySlice sA.spots (some pt) (some (pt + 1))).take j).foldl (lyAt E pt) sA = sB at hB ⊢
     have hfB:=hB.fit hE (by lia)
     have hlB:=hB.live.1
     have hsB:=hB.spots.1
     have hhh:=hE.hh
     have hnm:=hE.nlen _ (lyNm_mem hE)
     have hnl:=hnm.1
     have hq21:=call_cleanL hs5 21
     have hq10:=call_cleanL hs5 10
     have hc21:=call_len hs5 21
     have hc10:=call_len hs5 10
     have hcm:=call_len hs5 (E.maker + E.place + pt)
     have hgl:=getAll_lenL E.heads (lawCall spot 10)
     have hgv:=getAll_lenL sB.live (lawCall spot 21)
     refine Ex.ifN (b:=!decide (lyNm E ∈ getAll sB.live (lawCall spot 21))) (mu₁:=VS env.locals ["live", "heads", "names", "maker", "place", "spots", "k", "spot", "p"] [some ⟨tH,la⟩,some ⟨tH,ha⟩,some ⟨tLS,E.names⟩,some ⟨tInt,E.maker⟩,some ⟨tInt,E.place⟩,some ⟨tVal,(.ref sa)⟩,some ⟨tInt,pt⟩,some ⟨tInt,spot⟩,none] [] [] ++ lyRes sa la ha E sB) (mu₂:=VS env.locals ["live", "heads", "names", "maker", "place", "spots", "k", "spot", "p"] [some ⟨tH,la⟩,some ⟨tH,ha⟩,some ⟨tLS,E.names⟩,some ⟨tInt,E.maker⟩,some ⟨tInt,E.place⟩,some ⟨tVal,(.ref sa)⟩,some ⟨tInt,pt⟩,some ⟨tInt,spot⟩,none] [] [] ++ lyRes sa la ha E (lyAt E pt sB spot)) (.notInL (eqTy_str (d:=0)) det_str (.idxD (d:=Str.empty) (Ev.toL (.var (F.var (i:=2) rfl rfl))) (.var (F.var (i:=3) rfl rfl)) (by walk_at "sc") (by walk_at "sc")) (Ev.toL (Ev.meth (T:=tH) (x:=la) (hd_G hG) (hm_get_all hG) (.var (F.var (i:=0) rfl rfl)) (fun _ _ h=>h) rfl (EvA.cons (.callU (.glb F (i:=1) rfl (g_law_call hG)) (.cons (.var (F.var (i:=7) rfl rfl)) (.cons .intC .nil)) (ok_law_call hG) (cal_law_call hG (by walk_at "sc") (by walk_at "sc"))) .nil).toK (CalK.at0 (i:=1) (cod_get_all hG (by walk_at "sc") (by walk_at "sc") (by walk_at "sc")).calK rfl)))) ?t ?f (Ex.endTo (Wk.forget (by walk_at "forget")))
     case f =>
      intro hb
      have e : lyAt E pt sB spot = sB:=if_neg (by rw [hb]; decide)
      rw [e]; exact Wk.refl
     case t =>
      intro hb
      have e : lyAt E pt sB spot = ⟨(getAll E.heads (lawCall spot 10)).foldl (lyP E) sB.spots,sB.live ++ [(lawCall spot (E.maker + E.place + pt),lyNm E)]⟩:=if_pos hb
      rw [e]
      refine Ex.eff F (Ev.toMu (Ev.meth (mu₁:=VS env.locals ["live", "heads", "names", "maker", "place", "spots", "k", "spot", "p"] [some ⟨tH,la⟩,some ⟨tH,ha⟩,some ⟨tLS,E.names⟩,some ⟨tInt,E.maker⟩,some ⟨tInt,E.place⟩,some ⟨tVal,(.ref sa)⟩,some ⟨tInt,pt⟩,some ⟨tInt,spot⟩,none] [] [] ++ lyRes sa la ha E sB) (mu₂:=VS env.locals ["live", "heads", "names", "maker", "place", "spots", "k", "spot", "p"] [some ⟨tH,la⟩,some ⟨tH,ha⟩,some ⟨tLS,E.names⟩,some ⟨tInt,E.maker⟩,some ⟨tInt,E.place⟩,some ⟨tVal,(.ref sa)⟩,some ⟨tInt,pt⟩,some ⟨tInt,spot⟩,none] [] [] ++ lyRes sa la ha E sB) (T:=tH) (x:=la) (U:=tNone) (y:=()) (hd_G hG) (hm_add_header hG) (.var (F.var (i:=0) rfl rfl)) (fun _ _ h=>h) rfl (EvA.cons (.callU (.glb F (i:=1) rfl (g_law_call hG)) (.cons (.var (F.var (i:=7) rfl rfl)) (.cons (.add (.add (.var (F.var (i:=3) rfl rfl)) (.var (F.var (i:=4) rfl rfl))) (.var (F.var (i:=6) rfl rfl))) .nil)) (ok_law_call hG) (cal_law_call hG (by walk_at "sc") (by walk_at "sc"))) (EvA.cons (.idxD (d:=Str.empty) (Ev.toL (.var (F.var (i:=2) rfl rfl))) (.var (F.var (i:=3) rfl rfl)) (by walk_at "sc") (by walk_at "sc")) .nil)).toK (CalK.at (i:=1) (cod_add_header hG (nm:=lawCall spot (E.maker + E.place + pt)) (val:=lyNm E) hfB (call_clean hs5 _) hnm.2 (by lia)).calK rfl)) rfl) (fun K v e a=>by have e : v = .none:=e; rw [e]; exact nofun) ?_
      refine Ex.forK (T:=tStr) (xs:=getAll E.heads (lawCall spot 10)) (fun i=>VS env.locals ["live", "heads", "names", "maker", "place", "spots", "k", "spot", "p"] [some ⟨tH,la⟩,some ⟨tH,ha⟩,some ⟨tLS,E.names⟩,some ⟨tInt,E.maker⟩,some ⟨tInt,E.place⟩,some ⟨tVal,(.ref sa)⟩,some ⟨tInt,pt⟩,some ⟨tInt,spot⟩,none] [] [] ++ lyRes sa la ha E ⟨((getAll E.heads (lawCall spot 10)).take i).foldl (lyP E) sB.spots,sB.live ++ [(lawCall spot (E.maker + E.place + pt),lyNm E)]⟩) (.list (Ev.meth (T:=tH) (x:=ha) (hd_G hG) (hm_get_all hG) (.var (F.var (i:=1) rfl rfl)) (fun _ _ h=>h) rfl (EvA.cons (.callU (.glb F (i:=1) rfl (g_law_call hG)) (.cons (.var (F.var (i:=7) rfl rfl)) (.cons .intC .nil)) (ok_law_call hG) (cal_law_call hG (by walk_at "sc") (by walk_at "sc"))) .nil).toK (CalK.at0 (i:=2) (cod_get_all hG (by walk_at "sc") (by walk_at "sc") (by walk_at "sc")).calK rfl))) (fun i p hi=>⟨_,(As.loc F (i:=8) rfl (lb rfl)),?_⟩) ?_
      ·have hpm:=ly_src hE p (List.mem_of_getElem? hi)
       have hC:=lyPs_inv hE ((getAll E.heads (lawCall spot 10)).take i) hB.spots (fun q hq=>ly_src hE q (List.mem_of_mem_take hq))
       have hCl : ((getAll E.heads (lawCall spot 10)).take i).length ≤ 20:=by rw [List.length_take]; lia
       rw [take_snoc hi,List.foldl_append]
       generalize ((getAll E.heads (lawCall spot 10)).take i).foldl (lyP E) sB.spots = sC at hC ⊢
       have hC1:=hC.1
       refine Ex.ifN (b:=(!decide (p = lyNm E)) && ((!decide ((E.names.idxOf p : Int) ∈ sC)) && true)) (mu₁:=VS env.locals ["live", "heads", "names", "maker", "place", "spots", "k", "spot", "p"] [some ⟨tH,la⟩,some ⟨tH,ha⟩,some ⟨tLS,E.names⟩,some ⟨tInt,E.maker⟩,some ⟨tInt,E.place⟩,some ⟨tVal,(.ref sa)⟩,some ⟨tInt,pt⟩,some ⟨tInt,spot⟩,some ⟨tStr,p⟩] [] [] ++ lyRes sa la ha E ⟨sC,sB.live ++ [(lawCall spot (E.maker + E.place + pt),lyNm E)]⟩) (mu₂:=VS env.locals ["live", "heads", "names", "maker", "place", "spots", "k", "spot", "p"] [some ⟨tH,la⟩,some ⟨tH,ha⟩,some ⟨tLS,E.names⟩,some ⟨tInt,E.maker⟩,some ⟨tInt,E.place⟩,some ⟨tVal,(.ref sa)⟩,some ⟨tInt,pt⟩,some ⟨tInt,spot⟩,some ⟨tStr,p⟩] [] [] ++ lyRes sa la ha E ⟨lyP E sC p,sB.live ++ [(lawCall spot (E.maker + E.place + pt),lyNm E)]⟩) (.boolOp (.andP (.ofCmp cmp_neS (.var (F.var (i:=8) rfl rfl)) (.idxD (d:=Str.empty) (Ev.toL (.var (F.var (i:=2) rfl rfl))) (.var (F.var (i:=3) rfl rfl)) (by walk_at "sc") (by walk_at "sc"))) (fun hc=>(.andP (.notInL (eqTy_int (d:=0)) det_int (.indexS (Ev.toL (.var (F.var (i:=2) rfl rfl))) (.var (F.var (i:=8) rfl rfl)) (by walk_at "sc") (by walk_at "sc")) (Ev.toLI (i:=0) (.var (F.var (i:=5) rfl rfl)) rfl)) (fun hc=>.andNil))))) ?t2 ?f2 (Ex.endTo (Wk.forget (by walk_at "forget")))
       case f2 =>
        intro hb
        have e : lyP E sC p = sC:=if_neg (by rw [hb]; decide)
        rw [e]; exact Wk.refl
       case t2 =>
        intro hb
        have e : lyP E sC p = sC ++ [(E.names.idxOf p : Int)]:=if_pos hb
        rw [e]
        refine Ex.app (T:=tInt) (x:=(E.names.idxOf p : Int)) (xs:=sC) (i:=0) F (.var (F.var (i:=5) rfl rfl)) ?ea rfl (by lia) (Ex.nil fun K=>⟨rfl,rfl⟩)
        exact (.indexS (Ev.toL (.var (F.var (i:=2) rfl rfl))) (.var (F.var (i:=8) rfl rfl)) (by walk_at "sc") (by walk_at "sc"))
      ·rw [List.take_length]
       exact Ex.nil fun K=>⟨rfl,rfl⟩
    ·rw [List.take_length]
     exact Ex.endTo (Wk.forget (by walk_at "forget"))
   ·rw [List.take_length]
    refine Ex.ghost (WkG.frzL (i:=5) (j:=0) rfl rfl) ?_
    exact fOutP.end_ dropVS fun K=>⟨rfl,rfl⟩
end
local macro_rules | `(tactic| walk_at "sc")=>`(tactic| first | with_reducible assumption | lia | decide +kernel | (refine Nat.le_trans (pySlice_le _ _ _) ?_; rw [sizeLine_nat]; lia) | (refine addf_le ?_; rw [sizeLine_nat]; lia) | (simp only [sizeLine_nat,intRange_len,List.length_map,List.length_append,List.length_cons,List.length_nil,List.length_drop,List.length_take,mem_intRange] at *; lia))
structure BEnv where
 live : List (Str × Str)
 last : List (Str × Str)
 names : List Str
 steps : List (Int × Int)
section
variable {G : Gl} {n : Nat} {env : Env} {mu mu₁ mu₂ W R : List Res} {id : Str} {p' p2 pos q ap : Pos}
noncomputable def bxRows (E : BEnv) (p : Int) : List (List Str):=([(getAll E.last (lawCall p (6 : Int)))] ++ (List.map (fun x1 : Int × Int=>(getAll E.live (lawCall x1.2 (9 : Int)))) (List.filter (fun x1 : Int × Int=>(decide (x1.1 = p))) E.steps)))
noncomputable def bxOne (out : List Str) (one : Str) : List Str:=if (!decide (one ∈ out)) then out ++ [one] else out
noncomputable def bxRow (out : List Str) (row : List Str) : List Str:=row.foldl bxOne out
noncomputable def bxOut (E : BEnv) (p : Int) : List Str:=(bxRows E p).foldl bxRow []
noncomputable def bxNm (E : BEnv) (p : Int) : Nat → Str
 | 0=>E.names.getD p.toNat Str.empty
 | t + 1=>modnameP (("/" : Str) ++ bxNm E p t)
noncomputable def bxBox (boxes : List (Str × Str)) (nm : Str) : Str:=(Option.map (·.2) (findH boxes (List.getLastD (Txt.split nm ("." : Str)) Str.empty))).getD Str.empty
noncomputable def bxTk (E : BEnv) (boxes : List (Str × Str)) (p : Int) : Nat → List (Str × Str)
 | 0=>[]
 | t + 1=>if decide (bxNm E p (t + 1) ∈ bxOut E p) then (sdH (bxTk E boxes p t) (bxBox boxes (bxNm E p (t + 1))) (bxNm E p (t + 1))).2 else bxTk E boxes p t
noncomputable def bxSame (E : BEnv) (p : Int) (taken : List (Str × Str)) (out : List Str) : Bool:=(decide ((sortS (List.map (·.2) taken)) = (sortS (List.map (fun x1 : Str=>x1) (List.filter (fun x1 : Str=>(!decide (x1 = (List.getD E.names (Int.toNat p) Str.empty)))) out)))))
noncomputable def bxEmpty (taken : List (Str × Str)) : List Int:=(List.map (fun x1 : Int=>x1) (List.filter (fun x1 : Int=>(Option.isNone (Option.map (·.2) (findH taken (strMul ("R" : Str) x1))))) (intRange (1 : Int) (5 : Int))))
noncomputable def bxB (E : BEnv) (boxes : List (Str × Str)) (p : Int) : List (Str × Str):=if decide (E.names.getD p.toNat Str.empty ∈ bxOut E p) then (sdH boxes (lawCall p 3) (strMul ("r" : Str) ((bxEmpty (bxTk E boxes p p.toNat)).getD 0 0))).2 else boxes
noncomputable def bxAt (E : BEnv) (boxes : List (Str × Str)) : Nat → List (Str × Str)
 | 0=>boxes
 | k + 1=>bxB E (bxAt E boxes k) (k : Int)
noncomputable def bxOuts (E : BEnv) (k : Nat) : List (List Str):=((intRange 0 5).take k).map fun p=>sortS (bxOut E p)
structure BFit (E : BEnv) : Prop where
 live : HdFit E.live ∧ E.live.length ≤ 400
 last : HdFit E.last ∧ E.last.length ≤ 400
 names : E.names.length = 5
 nm : ∀ s ∈ E.names,NmOk s
 hs : E.steps.length ≤ 12 ∧ ∀ p ∈ E.steps,(0 ≤ p.1 ∧ p.1 < 5) ∧ (0 ≤ p.2 ∧ p.2 < 5)
 src : (∀ kv ∈ E.live,kv.2 ∈ E.names) ∧ ∀ kv ∈ E.last,kv.2 ∈ E.names
structure BxOk (E : BEnv) (boxes : List (Str × Str)) (p : Int) : Prop where
 len : boxes.length ≤ 5
 few : (bxOut E p).length ≤ 5
 fit : ∀ kv ∈ boxes,kv.1.length ≤ 10 ∧ kv.2.length ≤ 10 ∧ Clean kv.2 ∧ Clean (Txt.lower kv.2)
 nm : ∀ t,t ≤ p.toNat → bxNm E p t ∈ E.names
 box : ∀ t,t < p.toNat → bxNm E p (t + 1) ∈ bxOut E p → (findH boxes (List.getLastD (Txt.split (bxNm E p (t + 1)) ("." : Str)) Str.empty)).isSome = true
 tell : ∀ t,t < p.toNat → bxNm E p (t + 1) ∈ bxOut E p → (sdH (bxTk E boxes p t) (bxBox boxes (bxNm E p (t + 1))) (bxNm E p (t + 1))).1 = bxNm E p (t + 1)
 same : bxSame E p (bxTk E boxes p p.toNat) (bxOut E p) = true
 emp : E.names.getD p.toNat Str.empty ∈ bxOut E p → 0 < (bxEmpty (bxTk E boxes p p.toNat)).length
theorem bxOne_le (out : List Str) (one : Str) : (bxOne out one).length ≤ out.length + 1:=by
 unfold bxOne
 split
 ·rw [List.length_append]; exact Nat.le_refl _
 ·exact Nat.le_succ _
theorem bxRow_le : ∀ (row out : List Str),(bxRow out row).length ≤ out.length + row.length
 | [],_=>Nat.le_refl _
 | x :: row,out=>by
  have h1:=bxRow_le row (bxOne out x)
  have h2:=bxOne_le out x
  show (bxRow (bxOne out x) row).length ≤ _
  rw [List.length_cons]; lia
theorem bxRows_le {b : Nat} : ∀ (rows : List (List Str)) (out : List Str),(∀ row ∈ rows,row.length ≤ b) → (rows.foldl bxRow out).length ≤ out.length + rows.length * b
 | [],_,_=>by simp
 | x :: rows,out,h=>by
  have h1:=bxRows_le rows (bxRow out x) fun row hr=>h row (List.mem_cons_of_mem _ hr)
  have h2:=bxRow_le x out
  have h3:=h x List.mem_cons_self
  rw [List.foldl_cons,List.length_cons,Nat.add_mul]
  lia
theorem row_le {E : BEnv} (hE : BFit E) {p : Int} : (bxRows E p).length ≤ 13 ∧ ∀ row ∈ bxRows E p,row.length ≤ 400:=by
 refine ⟨?_,fun row hr=>?_⟩
 ·unfold bxRows
  rw [List.length_append,List.length_map]
  have:=List.length_filter_le (fun x1 : Int × Int=>(decide (x1.1 = p))) E.steps
  have:=hE.hs.1
  show 1 + _ ≤ _
  lia
 ·unfold bxRows at hr
  rcases List.mem_append.mp hr with hr | hr
  ·rw [List.mem_singleton.mp hr]; exact Nat.le_trans (getAll_lenL _ _) hE.last.2
  ·obtain ⟨q,_,rfl⟩:=List.mem_map.mp hr
   exact Nat.le_trans (getAll_lenL _ _) hE.live.2
theorem bxBox_at {E : BEnv} {bs : List (Str × Str)} {p : Int} (hO : BxOk E bs p) {t : Nat} (ht : t < p.toNat) (hm : bxNm E p (t + 1) ∈ bxOut E p) : Option.map (·.2) (findH bs (List.getLastD (Txt.split (bxNm E p (t + 1)) ("." : Str)) Str.empty)) = some (bxBox bs (bxNm E p (t + 1))) ∧ (bxBox bs (bxNm E p (t + 1))).length ≤ 10 ∧ Clean (bxBox bs (bxNm E p (t + 1))) ∧ Clean (Txt.lower (bxBox bs (bxNm E p (t + 1)))):=by
 have h1:=hO.box t ht hm
 obtain ⟨kv,hkv⟩:=Option.isSome_iff_exists.mp h1
 have hmem : kv ∈ bs:=List.mem_of_find?_eq_some hkv
 have e : bxBox bs (bxNm E p (t + 1)) = kv.2:=by unfold bxBox; rw [hkv]; rfl
 rw [e,hkv]
 exact ⟨rfl,(hO.fit kv hmem).2⟩
theorem bxTk_inv {E : BEnv} (hE : BFit E) {bs : List (Str × Str)} {p : Int} (hO : BxOk E bs p) : ∀ t,t ≤ p.toNat → (bxTk E bs p t).length ≤ t ∧ ∀ kv ∈ bxTk E bs p t,kv.1.length ≤ 10 ∧ kv.2.length ≤ 30
 | 0,_=>⟨Nat.le_refl _,fun kv h=>nomatch h⟩
 | t + 1,ht=>by
  obtain ⟨h1,h2⟩:=bxTk_inv hE hO t (by lia)
  unfold bxTk
  split
  ·rename_i hm
   have hm:=of_decide_eq_true hm
   have hb:=bxBox_at hO (t:=t) (by lia) hm
   unfold sdH
   split
   ·exact ⟨Nat.le_succ_of_le h1,h2⟩
   ·refine ⟨by rw [List.length_append]; exact Nat.add_le_add h1 (Nat.le_refl _),fun kv hkv=>?_⟩
    rcases List.mem_append.mp hkv with hkv | hkv
    ·exact h2 kv hkv
    ·rw [List.mem_singleton.mp hkv]
     exact ⟨hb.2.1,(hE.nm _ (hO.nm (t + 1) ht)).len⟩
  ·exact ⟨Nat.le_succ_of_le h1,h2⟩
theorem r_facts {x : Int} (h : 1 ≤ x ∧ x < 5) : ((strMul ("R" : Str) x).length ≤ 4 ∧ Clean (Txt.lower (strMul ("R" : Str) x))) ∧ (strMul ("r" : Str) x).length ≤ 4 ∧ Clean (strMul ("r" : Str) x):=by
 have hx : x = 1 ∨ x = 2 ∨ x = 3 ∨ x = 4:=by lia
 rcases hx with rfl | rfl | rfl | rfl <;> exact ⟨⟨by decide +kernel,clean_of (by decide +kernel)⟩,by decide +kernel,clean_of (by decide +kernel)⟩
theorem empty_at {tk : List (Str × Str)} (h : 0 < (bxEmpty tk).length) : 1 ≤ (bxEmpty tk).getD 0 0 ∧ (bxEmpty tk).getD 0 0 < 5:=by
 have hm:=getD_memL (d:=(0 : Int)) h
 unfold bxEmpty at hm ⊢
 rw [List.map_id'] at hm ⊢
 exact mem_intRange.mp (List.mem_filter.mp hm).1
theorem range_at2 {a : Int} {k : Nat} {x : Int} (h : (intRange 0 a)[k]? = some x) : x = k:=by
 unfold intRange at h
 rw [List.getElem?_map] at h
 cases h2 : (List.range (a - 0).toNat)[k]? with
 | none=>rw [h2] at h; cases h
 | some j =>
  rw [h2] at h
  have h3:=List.getElem?_eq_some_iff.mp h2
  obtain ⟨h3,h4⟩:=h3
  rw [List.getElem_range] at h4
  simp only [Option.map_some,Option.some.injEq] at h
  lia
theorem b_law_boxed (a b c d e : Value) : bindArgs fd_law_boxed ⟨[a,b,c,d,e],[]⟩ = pure [(("live" : Str),a),(("last" : Str),b),(("names" : Str),c),(("steps" : Str),d),(("boxes" : Str),e)]:=by rw [bindF_eq]; kernel_rfl
noncomputable def bxRes (oa la ta ba : Addr) (E : BEnv) (outs : List (List Str)) (boxes : List (Str × Str)) : List Res:=[rList oa tLS outs,rHd la E.live,rHd ta E.last,rHd ba boxes]
set_option maxHeartbeats 4000000 in
theorem cod_law_boxed (hG : TopOk G) {E : BEnv} (hE : BFit E) {boxes : List (Str × Str)} (hok : ∀ k : Nat,k < 5 → BxOk E (bxAt E boxes k) (k : Int)) {la ta ba : Addr} : CodX G (n + 8) (.ref 308) [⟨tH,la⟩,⟨tH,ta⟩,⟨tList tStr,E.names⟩,⟨tList (tPair tInt tInt),E.steps⟩,⟨tH,ba⟩] []
  [rHd la E.live,rHd ta E.last,rHd ba boxes] (fun K v mu'=>mu' = [rHd la E.live,rHd ta E.last,rHd ba (bxAt E boxes 5)] ∧ (tList tLS).rel K v (bxOuts E 5)):=by
 have l1:=hE.names
 refine CodX.dfR (rho:=[some ⟨tH,ta⟩,some ⟨tLP,E.steps⟩,some ⟨tH,ba⟩,none,none,none,none,none,none,none,none]) (ka:=[some ⟨tH,la⟩,some ⟨tLS,E.names⟩,none,none]) (ps:=[("live", ⟨tH,la⟩),("last", ⟨tH,ta⟩),("names", ⟨tLS,E.names⟩),("steps", ⟨tLP,E.steps⟩),("boxes", ⟨tH,ba⟩)]) (ok_law_boxed hG) (bindP (vs0:=["live", "last", "names", "steps", "boxes"]) (fun vs hl=>allV (P:=fun vs=>bindArgs _ ⟨vs,[]⟩ = pure (List.zip _ vs)) .none hl fun f=>b_law_boxed (f 0) (f 1) (f 2) (f 3) (f 4)) rfl) (fun env ca F hl=>?_) (fun env ca F hl hcode=>?_)
 ·obtain ⟨c0,c1,c2,c3,rfl⟩:=ex4 hl
  next=>exact (.cons (.cel F (i:=0) rfl rfl (lb rfl)) (.cons (.loc F (i:=0) rfl (lb rfl)) (.cons (.cel F (i:=1) rfl rfl (lb rfl)) (.cons (.loc F (i:=1) rfl (lb rfl)) (.cons (.loc F (i:=2) rfl (lb rfl)) .nil)))))
 ·obtain ⟨c0,c1,c2,c3,rfl⟩:=ex4 hl
  next =>
   refine Ex.asg2X (ι:=Addr) (M:=fun oa=>VS env.locals ["last", "steps", "boxes", "outs", "fine", "out", "name", "row", "one", "turn", "empty"] [some ⟨tH,ta⟩,some ⟨tLP,E.steps⟩,some ⟨tH,ba⟩,none,none,none,none,none,none,none,none] [c0,c1,c2,c3] [some ⟨tH,la⟩,some ⟨tLS,E.names⟩,none,none] ++ (rList oa tLS [] :: [rHd la E.live,rHd ta E.last,rHd ba boxes])) (M₂:=fun oa=>VS env.locals ["last", "steps", "boxes", "outs", "fine", "out", "name", "row", "one", "turn", "empty"] [some ⟨tH,ta⟩,some ⟨tLP,E.steps⟩,some ⟨tH,ba⟩,none,none,none,none,none,none,none,none] [c0,c1,c2,c3] [some ⟨tH,la⟩,some ⟨tLS,E.names⟩,none,none] ++ (rList oa tLS [] :: [rHd la E.live,rHd ta E.last,rHd ba boxes])) (Tv:=fun oa=>⟨tVal,.ref oa⟩) (U:=tBool) (y:=true) (i:=3) (j:=4) F
    ((EvX.list (T:=tList tStr) (xs:=[]) .nil (by decide)).mono fun K v mu' ⟨a,e1,e2⟩=>⟨a,e2,e1⟩) (fun oa=>.boolC) (fun oa=>St1.loc F (i:=4) rfl (lb rfl)) (fun oa=>St1.loc F (i:=3) rfl (lb rfl)) rfl rfl (by decide) (fun oa=>?_)
   refine Ex.forK (T:=tInt) (xs:=intRange 0 5) (fun k=>VS env.locals ["last", "steps", "boxes", "outs", "fine", "out", "name", "row", "one", "turn", "empty"] [some ⟨tH,ta⟩,some ⟨tLP,E.steps⟩,some ⟨tH,ba⟩,some ⟨tVal,(.ref oa)⟩,some ⟨tBool,true⟩,none,none,none,none,none,none] [c0,c1,c2,c3] [some ⟨tH,la⟩,some ⟨tLS,E.names⟩,none,none] ++ bxRes oa la ta ba E (bxOuts E k) (bxAt E boxes k)) (.range (.callT (.glb F (i:=0) rfl (g_range hG)) (.cons .intC .nil) cal_range1) (by walk_at "sc") (by walk_at "sc") (by walk_at "sc") (by walk_at "sc")) (fun k p hk=>⟨_,(As.cel F (i:=2) rfl rfl (lb rfl)),?_⟩) ?_
   ·have hp:=mem_intRange.mp (List.mem_of_getElem? hk)
    have hpk:=range_at2 hk
    have hk5 : k < 5:=by lia
    have hO:=hok k hk5
    rw [← hpk] at hO
    have e1 : bxOuts E (k + 1) = bxOuts E k ++ [sortS (bxOut E p)]:=by unfold bxOuts; rw [take_snoc hk,List.map_append]; rfl
    have e2 : bxAt E boxes (k + 1) = bxB E (bxAt E boxes k) p:=by rw [hpk]; rfl
    rw [e1,e2]
    have hol : (bxOuts E k).length ≤ 5:=by unfold bxOuts; rw [List.length_map,List.length_take,intRange_len]; lia
    generalize bxOuts E k = os at hol ⊢
    generalize bxAt E boxes k = bs at hO ⊢
    have hbl:=hO.len
    have hbf:=hO.fit
    have hla:=hE.live.1
    have hta:=hE.last.1
    have hla2:=hE.live.2
    have hta2:=hE.last.2
    have hsl:=hE.hs.1
    have hq6:=call_cleanL hp 6
    have hc6:=call_len hp 6
    have hg6:=getAll_lenL E.last (lawCall p 6)
    have mk : ∀ (W R : List Res) (i : Nat) (p p' : Pos),EvX G (n + 7) env (W ++ R) (.Call (.Name "Headers" p) [] [] p') (fun K v mu'=>∃ a,mu' = (fun a=>W ++ (rHd a [] :: R)) a ∧ tH.rel K v a):=fun W R i p p' =>
     EvX.front (r:=fun a=>rHd a []) (EvX.make (hd_K hG) (.glb F (i:=1) rfl (g_Headers hG)) EvAK.none (cod_hd hG).cal)
    refine Ex.asgX (ι:=Addr × Addr × Unit) (M:=fun q=>VS env.locals ["last", "steps", "boxes", "outs", "fine", "out", "name", "row", "one", "turn", "empty"] [some ⟨tH,ta⟩,some ⟨tLP,E.steps⟩,some ⟨tH,ba⟩,some ⟨tVal,(.ref oa)⟩,some ⟨tBool,true⟩,none,none,none,none,none,none] [c0,c1,c2,c3] [some ⟨tH,la⟩,some ⟨tLS,E.names⟩,some ⟨tInt,p⟩,none] ++ (rHd q.2.1 [] :: rList q.1 tStr [] :: bxRes oa la ta ba E os bs)) (Tv:=fun q=>⟨tTrip tVal tH tStr,(.ref q.1,q.2.1,bxNm E p 0)⟩) (M':=fun q=>_) (EvX.trip (M:=fun i=>VS env.locals ["last", "steps", "boxes", "outs", "fine", "out", "name", "row", "one", "turn", "empty"] [some ⟨tH,ta⟩,some ⟨tLP,E.steps⟩,some ⟨tH,ba⟩,some ⟨tVal,(.ref oa)⟩,some ⟨tBool,true⟩,none,none,none,none,none,none] [c0,c1,c2,c3] [some ⟨tH,la⟩,some ⟨tLS,E.names⟩,some ⟨tInt,p⟩,none] ++ (rList i tStr [] :: bxRes oa la ta ba E os bs)) (Tv:=fun i=>⟨tVal,.ref i⟩) (M2:=fun i j=>VS env.locals ["last", "steps", "boxes", "outs", "fine", "out", "name", "row", "one", "turn", "empty"] [some ⟨tH,ta⟩,some ⟨tLP,E.steps⟩,some ⟨tH,ba⟩,some ⟨tVal,(.ref oa)⟩,some ⟨tBool,true⟩,none,none,none,none,none,none] [c0,c1,c2,c3] [some ⟨tH,la⟩,some ⟨tLS,E.names⟩,some ⟨tInt,p⟩,none] ++ (rHd j [] :: rList i tStr [] :: bxRes oa la ta ba E os bs)) (Tw:=fun i j=>⟨tH,j⟩) (M3:=fun i j l=>VS env.locals ["last", "steps", "boxes", "outs", "fine", "out", "name", "row", "one", "turn", "empty"] [some ⟨tH,ta⟩,some ⟨tLP,E.steps⟩,some ⟨tH,ba⟩,some ⟨tVal,(.ref oa)⟩,some ⟨tBool,true⟩,none,none,none,none,none,none] [c0,c1,c2,c3] [some ⟨tH,la⟩,some ⟨tLS,E.names⟩,some ⟨tInt,p⟩,none] ++ (rHd j [] :: rList i tStr [] :: bxRes oa la ta ba E os bs)) (Tz:=fun i j l=>⟨tStr,bxNm E p 0⟩)
     ((EvX.list (T:=tStr) (xs:=[]) .nil (by decide)).mono fun K v mu' ⟨a,e1,e2⟩=>⟨a,e2,e1⟩) (fun i=>mk _ _ 0 _ _) (fun i j=>Ev.toI (.idxD (d:=Str.empty) (Ev.toL (.var (F.celIn (i:=1) rfl rfl rfl).var)) (.var (F.celIn (i:=2) rfl rfl rfl).var) (by walk_at "sc") (by walk_at "sc")))) (fun q=>.trip (As.loc F (i:=5) rfl (lb rfl)) (As.cel F (i:=3) rfl rfl (lb rfl)) (As.loc F (i:=6) rfl (lb rfl))) (fun q=>?_) rfl rfl (sw3b F (i:=3) rfl)
    obtain ⟨ua,ka,u⟩:=q
    refine Ex.forK (T:=tList tStr) (xs:=bxRows E p) (fun j=>VS env.locals ["last", "steps", "boxes", "outs", "fine", "out", "name", "row", "one", "turn", "empty"] [some ⟨tH,ta⟩,some ⟨tLP,E.steps⟩,some ⟨tH,ba⟩,some ⟨tVal,(.ref oa)⟩,some ⟨tBool,true⟩,some ⟨tVal,(.ref ua)⟩,some ⟨tStr,(bxNm E p 0)⟩,none,none,none,none] [c0,c1,c2,c3] [some ⟨tH,la⟩,some ⟨tLS,E.names⟩,some ⟨tInt,p⟩,some ⟨tH,ka⟩] ++ (rHd ka [] :: rList ua tStr (((bxRows E p).take j).foldl bxRow []) :: bxRes oa la ta ba E os bs)) (.list (.addL (.listD (T:=tLS) (.cons (Ev.meth (T:=tH) (x:=ta) (hd_G hG) (hm_get_all hG) (.var (F.var (i:=0) rfl rfl)) (fun _ _ h=>h) rfl (EvA.cons (.callU (.glb F (i:=2) rfl (g_law_call hG)) (.cons (.var (F.celIn (i:=2) rfl rfl rfl).var) (.cons .intC .nil)) (ok_law_call hG) (cal_law_call hG (by walk_at "sc") (by walk_at "sc"))) .nil).toK (CalK.at0 (i:=4) (cod_get_all hG (by walk_at "sc") (by walk_at "sc") (by walk_at "sc")).calK rfl)) .nil) (by walk_at "sc")) (.sift (T:=(tPair tInt tInt)) (U:=tLS) (fun x1 : Int × Int=>(decide (x1.1 = p))) (fun x1 : Int × Int=>(getAll E.live (lawCall x1.2 (9 : Int)))) F (csc_of (ln:=["u", "v"]) (cn:=[]) (fn:=["live", "p"]) (gn:=["_law_call"]) (by decide +kernel)) (.consF F (i:=0) rfl rfl (.consF F (i:=2) rfl rfl .nil)) (.list (.var (F.var (i:=1) rfl rfl))) (by walk_at "sc") (fun e1 a1 B1 x1 h1=>match a1,B1.len with | [],_=>⟨[some ⟨tInt,x1.1⟩,some ⟨tInt,x1.2⟩],[],rfl,(As.pair (As.loc B1.F (i:=0) rfl (lb rfl)) (As.loc B1.F (i:=1) rfl (lb rfl))),(.ofCmp cmp_eqI (.var (B1.F.var (i:=0) rfl rfl)) (.var (B1.S.cel (i:=1) rfl (F.celIn (i:=2) rfl rfl rfl) _).var)),fun hp1=>(Ev.meth (T:=tH) (x:=la) (hd_G hG) (hm_get_all hG) (.var (B1.S.cel (i:=0) rfl (F.celIn (i:=0) rfl rfl rfl) _).var) (fun _ _ h=>h) rfl (EvA.cons (.callU (.glb B1.F (i:=0) rfl (g_law_call hG)) (.cons (.var (B1.F.var (i:=1) rfl rfl)) (.cons .intC .nil)) (ok_law_call hG) (cal_law_call hG (by have:=hE.hs.2 x1 h1; lia) (by have:=hE.hs.2 x1 h1; lia))) .nil).toK (CalK.at02 (i:=3) (cod_get_all hG (by walk_at "sc") (by have:=call_len (hE.hs.2 x1 h1).2 9; lia) (call_cleanL (hE.hs.2 x1 h1).2 9)).calK rfl))⟩)) (by rw [sizeLine_nat]; have:=List.length_filter_le (fun x1 : Int × Int=>(decide (x1.1 = p))) E.steps; simp only [List.length_append,List.length_map,List.length_cons,List.length_nil]; lia))) (fun j row hj=>⟨_,(As.loc F (i:=7) rfl (lb rfl)),?_⟩) ?_
    ·have hrm:=List.mem_of_getElem? hj
     have hrl:=row_le hE (p:=p)
     have hrl4:=hrl.2 row hrm
     have hjl:=(List.getElem?_eq_some_iff.mp hj).1
     have hBl:=bxRows_le (b:=400) ((bxRows E p).take j) [] fun row hr=>hrl.2 row (List.mem_of_mem_take hr)
     rw [List.length_take] at hBl
     have hBl2 : (((bxRows E p).take j).foldl bxRow []).length ≤ 13 * 400:=Nat.le_trans hBl (by rw [List.length_nil,Nat.zero_add]; exact Nat.mul_le_mul_right _ (by lia))
     rw [take_snoc hj,List.foldl_append]
     generalize ((bxRows E p).take j).foldl bxRow [] = ou at hBl2 ⊢
     refine Ex.forK (T:=tStr) (xs:=row) (fun i=>VS env.locals ["last", "steps", "boxes", "outs", "fine", "out", "name", "row", "one", "turn", "empty"] [some ⟨tH,ta⟩,some ⟨tLP,E.steps⟩,some ⟨tH,ba⟩,some ⟨tVal,(.ref oa)⟩,some ⟨tBool,true⟩,some ⟨tVal,(.ref ua)⟩,some ⟨tStr,(bxNm E p 0)⟩,some ⟨tLS,row⟩,none,none,none] [c0,c1,c2,c3] [some ⟨tH,la⟩,some ⟨tLS,E.names⟩,some ⟨tInt,p⟩,some ⟨tH,ka⟩] ++ (rHd ka [] :: rList ua tStr ((row.take i).foldl bxOne ou) :: bxRes oa la ta ba E os bs)) (.list (.var (F.var (i:=7) rfl rfl))) (fun i one hi=>⟨_,(As.loc F (i:=8) rfl (lb rfl)),?_⟩) ?_
     ·have hil:=(List.getElem?_eq_some_iff.mp hi).1
      have hCl : ((row.take i).foldl bxOne ou).length ≤ ou.length + (row.take i).length:=bxRow_le (row.take i) ou
      rw [List.length_take] at hCl
      rw [take_snoc hi,List.foldl_append]
      generalize (row.take i).foldl bxOne ou = oc at hCl ⊢
      refine Ex.ifN (b:=!decide (one ∈ oc)) (mu₁:=VS env.locals ["last", "steps", "boxes", "outs", "fine", "out", "name", "row", "one", "turn", "empty"] [some ⟨tH,ta⟩,some ⟨tLP,E.steps⟩,some ⟨tH,ba⟩,some ⟨tVal,(.ref oa)⟩,some ⟨tBool,true⟩,some ⟨tVal,(.ref ua)⟩,some ⟨tStr,(bxNm E p 0)⟩,some ⟨tLS,row⟩,some ⟨tStr,one⟩,none,none] [c0,c1,c2,c3] [some ⟨tH,la⟩,some ⟨tLS,E.names⟩,some ⟨tInt,p⟩,some ⟨tH,ka⟩] ++ (rHd ka [] :: rList ua tStr oc :: bxRes oa la ta ba E os bs)) (mu₂:=VS env.locals ["last", "steps", "boxes", "outs", "fine", "out", "name", "row", "one", "turn", "empty"] [some ⟨tH,ta⟩,some ⟨tLP,E.steps⟩,some ⟨tH,ba⟩,some ⟨tVal,(.ref oa)⟩,some ⟨tBool,true⟩,some ⟨tVal,(.ref ua)⟩,some ⟨tStr,(bxNm E p 0)⟩,some ⟨tLS,row⟩,some ⟨tStr,one⟩,none,none] [c0,c1,c2,c3] [some ⟨tH,la⟩,some ⟨tLS,E.names⟩,some ⟨tInt,p⟩,some ⟨tH,ka⟩] ++ (rHd ka [] :: rList ua tStr (bxOne oc one) :: bxRes oa la ta ba E os bs)) (.notInL (eqTy_str (d:=0)) det_str (.var (F.var (i:=8) rfl rfl)) (Ev.toLI (i:=1) (.var (F.var (i:=5) rfl rfl)) rfl)) ?t ?f (Ex.endTo (Wk.forget (by walk_at "forget")))
      case f =>
       intro hb
       have e : bxOne oc one = oc:=if_neg (by rw [hb]; decide)
       rw [e]; exact Wk.refl
      case t =>
       intro hb
       have e : bxOne oc one = oc ++ [one]:=if_pos hb
       rw [e]
       exact Ex.app (T:=tStr) (x:=one) (xs:=oc) (i:=1) F (.var (F.var (i:=5) rfl rfl)) (.var (F.var (i:=8) rfl rfl)) rfl (by lia) (Ex.nil fun K=>⟨rfl,rfl⟩)
     ·rw [List.take_length]
      exact Ex.endTo (Wk.forget (by walk_at "forget"))
    ·rw [List.take_length]
     have hrl:=row_le hE (p:=p)
     have hout : (bxOut E p).length ≤ 13 * 400:=Nat.le_trans (bxRows_le (b:=400) (bxRows E p) [] hrl.2) (by rw [List.length_nil,Nat.zero_add]; exact Nat.mul_le_mul_right _ hrl.1)
     have hpp : p.toNat ≤ 4:=by lia
     have hrange : (intRange 0 p).length = p.toNat:=by rw [intRange_len]; congr 1; lia
     refine Ex.forK (T:=tInt) (xs:=intRange 0 p) (fun t=>VS env.locals ["last", "steps", "boxes", "outs", "fine", "out", "name", "row", "one", "turn", "empty"] [some ⟨tH,ta⟩,some ⟨tList (tPair tInt tInt),E.steps⟩,some ⟨tH,ba⟩,some ⟨tVal,.ref oa⟩,some ⟨tBool,true⟩,some ⟨tVal,.ref ua⟩,some ⟨tStr,bxNm E p t⟩,none,none,none,none] [c0,c1,c2,c3] [some ⟨tH,la⟩,some ⟨tLS,E.names⟩,some ⟨tInt,p⟩,some ⟨tH,ka⟩] ++ (rHd ka (bxTk E bs p t) :: rList ua tStr (bxOut E p) :: bxRes oa la ta ba E os bs)) (.range (.callT (.glb F (i:=0) rfl (g_range hG)) (.cons (.var (F.celIn (i:=2) rfl rfl rfl).var) .nil) cal_range1) (by walk_at "sc") (by walk_at "sc") (by walk_at "sc") (by walk_at "sc")) (fun t turn ht=>⟨_,(As.loc F (i:=9) rfl (lb rfl)),?_⟩) ?_
     ·have htl : t < p.toNat:=by have:=(List.getElem?_eq_some_iff.mp ht).1; lia
      have hna:=hE.nm _ (hO.nm t (by lia))
      have hnl:=hna.len
      have hmn:=hna.mn
      have hO1 : ("/" : Str).length = 1:=by decide +kernel
      refine Ex.asg (.callU (.glb F (i:=3) rfl (g_modname hG)) (.cons (.cat .strC (.var (F.var (i:=6) rfl rfl)) (by walk_at "sc")) .nil) (ok_modname hG) (cal_modname hG (by walk_at "sc"))) (As.loc F (i:=6) rfl (lb rfl)) ?_
      have hna1:=hE.nm _ (hO.nm (t + 1) (by lia))
      have hnl1:=hna1.len
      have hspc:=hna1.spc
      have hspl:=hna1.spl
      have hcl1:=hna1.clean
      have hT:=bxTk_inv hE hO t (by lia)
      have hTf : HdFit (bxTk E bs p t):=⟨by have:=hT.1; lia,fun kv hk=>⟨by have:=(hT.2 kv hk).1; lia,by have:=(hT.2 kv hk).2; lia⟩⟩
      have hBf : HdFit bs:=⟨by lia,fun kv hk=>⟨by have:=(hbf kv hk).1; lia,by have:=(hbf kv hk).2.1; lia⟩⟩
      have q1 : (List.getLastD (Txt.split (bxNm E p (t + 1)) ("." : Str)) Str.empty).length ≤ 10:=hspc.2.1
      have q2 : Clean (Txt.lower (List.getLastD (Txt.split (bxNm E p (t + 1)) ("." : Str)) Str.empty)):=hspc.2.2
      refine Ex.ifN (b:=decide (bxNm E p (t + 1) ∈ bxOut E p)) (mu₁:=VS env.locals ["last", "steps", "boxes", "outs", "fine", "out", "name", "row", "one", "turn", "empty"] [some ⟨tH,ta⟩,some ⟨tList (tPair tInt tInt),E.steps⟩,some ⟨tH,ba⟩,some ⟨tVal,.ref oa⟩,some ⟨tBool,true⟩,some ⟨tVal,.ref ua⟩,some ⟨tStr,bxNm E p (t + 1)⟩,none,none,some ⟨tInt,turn⟩,none] [c0,c1,c2,c3] [some ⟨tH,la⟩,some ⟨tLS,E.names⟩,some ⟨tInt,p⟩,some ⟨tH,ka⟩] ++ (rHd ka (bxTk E bs p t) :: rList ua tStr (bxOut E p) :: bxRes oa la ta ba E os bs)) (mu₂:=VS env.locals ["last", "steps", "boxes", "outs", "fine", "out", "name", "row", "one", "turn", "empty"] [some ⟨tH,ta⟩,some ⟨tList (tPair tInt tInt),E.steps⟩,some ⟨tH,ba⟩,some ⟨tVal,.ref oa⟩,some ⟨tBool,true⟩,some ⟨tVal,.ref ua⟩,some ⟨tStr,bxNm E p (t + 1)⟩,none,none,some ⟨tInt,turn⟩,none] [c0,c1,c2,c3] [some ⟨tH,la⟩,some ⟨tLS,E.names⟩,some ⟨tInt,p⟩,some ⟨tH,ka⟩] ++ (rHd ka (bxTk E bs p (t + 1)) :: rList ua tStr (bxOut E p) :: bxRes oa la ta ba E os bs)) (.inL (eqTy_str (d:=0)) det_str (.var (F.var (i:=6) rfl rfl)) (Ev.toLI (i:=1) (.var (F.var (i:=5) rfl rfl)) rfl)) ?t ?f (Ex.endTo (Wk.forget (by walk_at "forget")))
      case f =>
       intro hb
       have e : bxTk E bs p (t + 1) = bxTk E bs p t:=if_neg (by rw [hb]; decide)
       rw [e]; exact Wk.refl
      case t =>
       intro hb
       have e : bxTk E bs p (t + 1) = (sdH (bxTk E bs p t) (bxBox bs (bxNm E p (t + 1))) (bxNm E p (t + 1))).2:=if_pos hb
       rw [e]
       have hm:=of_decide_eq_true hb
       obtain ⟨hbx,hb1,hb2,hb3⟩:=bxBox_at hO htl hm
       have hte:=hO.tell t htl hm
       refine Ex.asg (T:=tBool) (x:=true) (Ev.and2 (i:=true) (j:=true) (.var (F.var (i:=4) rfl rfl)) (fun _=>Ev.conv (.ofCmp cmp_eqS (Ev.toMu (Ev.meth (mu₁:=VS env.locals ["last", "steps", "boxes", "outs", "fine", "out", "name", "row", "one", "turn", "empty"] [some ⟨tH,ta⟩,some ⟨tList (tPair tInt tInt),E.steps⟩,some ⟨tH,ba⟩,some ⟨tVal,.ref oa⟩,some ⟨tBool,true⟩,some ⟨tVal,.ref ua⟩,some ⟨tStr,bxNm E p (t + 1)⟩,none,none,some ⟨tInt,turn⟩,none] [c0,c1,c2,c3] [some ⟨tH,la⟩,some ⟨tLS,E.names⟩,some ⟨tInt,p⟩,some ⟨tH,ka⟩] ++ (rHd ka (bxTk E bs p t) :: rList ua tStr (bxOut E p) :: bxRes oa la ta ba E os bs)) (mu₂:=VS env.locals ["last", "steps", "boxes", "outs", "fine", "out", "name", "row", "one", "turn", "empty"] [some ⟨tH,ta⟩,some ⟨tList (tPair tInt tInt),E.steps⟩,some ⟨tH,ba⟩,some ⟨tVal,.ref oa⟩,some ⟨tBool,true⟩,some ⟨tVal,.ref ua⟩,some ⟨tStr,bxNm E p (t + 1)⟩,none,none,some ⟨tInt,turn⟩,none] [c0,c1,c2,c3] [some ⟨tH,la⟩,some ⟨tLS,E.names⟩,some ⟨tInt,p⟩,some ⟨tH,ka⟩] ++ (rHd ka (bxTk E bs p t) :: rList ua tStr (bxOut E p) :: bxRes oa la ta ba E os bs)) (T:=tH) (x:=ka) (U:=tStr) (hd_G hG) (hm_setdefault hG) (.var (F.celIn (i:=3) rfl rfl rfl).var) (fun _ _ h=>h) rfl (EvA.cons (Ev.ofSome (Ev.conv (Ev.meth (T:=tH) (x:=ba) (hd_G hG) (hm_get hG) (.var (F.var (i:=2) rfl rfl)) (fun _ _ h=>h) rfl (EvA.cons (.lastD (d:=Str.empty) (Ev.toL (.str1 PySem.F.slot_str_split PySem.F.type_str_split (.var (F.var (i:=6) rfl rfl)) .strC (cal_split (by decide +kernel) (by walk_at "sc")))) (.neg .intC) rfl (by walk_at "sc") (by walk_at "sc")) .nil).toK (CalK.at0 (i:=5) (cod_getN hG (by walk_at "sc") (by walk_at "sc") (by walk_at "sc")).calK rfl)) hbx)) (EvA.cons (.var (F.var (i:=6) rfl rfl)) .nil)).toK (CalK.at (i:=0) (cod_setdefault hG hTf (by lia) hb3 hb2 hcl1).calK rfl)) rfl) (.var (F.var (i:=6) rfl rfl))) (decide_eq_true hte)) (fun h=>nomatch h)) (As.loc F (i:=4) rfl (lb rfl)) (Ex.nil fun K=>⟨rfl,rfl⟩)
     ·rw [hrange]
      have hT:=bxTk_inv hE hO p.toNat (Nat.le_refl _)
      have hTf : HdFit (bxTk E bs p p.toNat):=⟨by have:=hT.1; lia,fun kv hk=>⟨by have:=(hT.2 kv hk).1; lia,by have:=(hT.2 kv hk).2; lia⟩⟩
      have hBf : HdFit bs:=⟨by lia,fun kv hk=>⟨by have:=(hbf kv hk).1; lia,by have:=(hbf kv hk).2.1; lia⟩⟩
      have hTl:=hT.1
      have hof:=hO.few
      have hff:=List.length_filter_le (fun x1 : Str=>(!decide (x1 = (List.getD E.names (Int.toNat p) Str.empty)))) (bxOut E p)
      refine Ex.ghost (WkG.frzL (i:=5) (j:=1) rfl rfl) ?_
      refine Ex.wk (mu₁:=VS env.locals ["last", "steps", "boxes", "outs", "fine", "out", "name", "row", "one", "turn", "empty"] [some ⟨tH,ta⟩,some ⟨tList (tPair tInt tInt),E.steps⟩,some ⟨tH,ba⟩,some ⟨tVal,.ref oa⟩,some ⟨tBool,true⟩,some ⟨tList tStr,bxOut E p⟩,some ⟨tStr,bxNm E p p.toNat⟩,none,none,none,none] [c0,c1,c2,c3] [some ⟨tH,la⟩,some ⟨tLS,E.names⟩,some ⟨tInt,p⟩,some ⟨tH,ka⟩] ++ (rHd ka (bxTk E bs p p.toNat) :: bxRes oa la ta ba E os bs)) Wk.refl ?_
      refine Ex.asg (T:=tBool) (x:=true) (Ev.and2 (i:=true) (j:=true) (.var (F.var (i:=4) rfl rfl)) (fun _=>Ev.conv (.ofCmp (cmp_eqL (eqTy_str (d:=0))) (.callB (.glb F (i:=4) rfl (g_sorted hG)) (.cons (Ev.meth (T:=tH) (x:=ka) (hd_G hG) (hm_values hG) (.var (F.celIn (i:=3) rfl rfl rfl).var) (fun _ _ h=>h) rfl EvAK.none (CalK.at0 (i:=0) (cod_values hG (by walk_at "sc")).calK rfl)) .nil) (cal_sortedS (by walk_at "sc"))) (.callB (.glb F (i:=4) rfl (g_sorted hG)) (.cons (.sift (T:=tStr) (U:=tStr) (fun x1 : Str=>(!decide (x1 = (List.getD E.names (Int.toNat p) Str.empty)))) (fun x1 : Str=>x1) F (csc_of (ln:=["one"]) (cn:=[]) (fn:=["names", "p"]) (gn:=[]) (by decide +kernel)) (.consF F (i:=1) rfl rfl (.consF F (i:=2) rfl rfl .nil)) (.list (.var (F.var (i:=5) rfl rfl))) (by walk_at "sc") (fun e1 a1 B1 x1 h1=>match a1,B1.len with | [],_=>⟨[some ⟨tStr,x1⟩],[],rfl,(As.loc B1.F (i:=0) rfl (lb rfl)),(.ofCmp cmp_neS (.var (B1.F.var (i:=0) rfl rfl)) (.idxD (d:=Str.empty) (Ev.toL (.var (B1.S.cel (i:=0) rfl (F.celIn (i:=1) rfl rfl rfl) _).var)) (.var (B1.S.cel (i:=1) rfl (F.celIn (i:=2) rfl rfl rfl) _).var) (by walk_at "sc") (by walk_at "sc"))),fun hp1=>(.var (B1.F.var (i:=0) rfl rfl))⟩)) .nil) (cal_sortedS (by walk_at "sc")))) hO.same) (fun h=>nomatch h)) (As.loc F (i:=4) rfl (lb rfl)) ?_
      refine Ex.ifN (b:=decide (E.names.getD p.toNat Str.empty ∈ bxOut E p)) (mu₁:=VS env.locals ["last", "steps", "boxes", "outs", "fine", "out", "name", "row", "one", "turn", "empty"] [some ⟨tH,ta⟩,some ⟨tList (tPair tInt tInt),E.steps⟩,some ⟨tH,ba⟩,some ⟨tVal,.ref oa⟩,some ⟨tBool,true⟩,some ⟨tList tStr,bxOut E p⟩,some ⟨tStr,bxNm E p p.toNat⟩,none,none,none,none] [c0,c1,c2,c3] [some ⟨tH,la⟩,some ⟨tLS,E.names⟩,some ⟨tInt,p⟩,some ⟨tH,ka⟩] ++ (rHd ka (bxTk E bs p p.toNat) :: bxRes oa la ta ba E os bs)) (mu₂:=VS env.locals ["last", "steps", "boxes", "outs", "fine", "out", "name", "row", "one", "turn", "empty"] [some ⟨tH,ta⟩,some ⟨tList (tPair tInt tInt),E.steps⟩,some ⟨tH,ba⟩,some ⟨tVal,.ref oa⟩,some ⟨tBool,true⟩,some ⟨tList tStr,bxOut E p⟩,some ⟨tStr,bxNm E p p.toNat⟩,none,none,none,none] [c0,c1,c2,c3] [some ⟨tH,la⟩,some ⟨tLS,E.names⟩,some ⟨tInt,p⟩,some ⟨tH,ka⟩] ++ (rHd ka (bxTk E bs p p.toNat) :: bxRes oa la ta ba E os (bxB E bs p))) (.inL (eqTy_str (d:=0)) det_str (.idxD (d:=Str.empty) (Ev.toL (.var (F.celIn (i:=1) rfl rfl rfl).var)) (.var (F.celIn (i:=2) rfl rfl rfl).var) (by walk_at "sc") (by walk_at "sc")) (Ev.toL (.var (F.var (i:=5) rfl rfl)))) ?t ?f ?k
      case f =>
       intro hb
       have e : bxB E bs p = bs:=if_neg (by rw [hb]; decide)
       rw [e]; exact Wk.refl
      case t =>
       intro hb
       have e : bxB E bs p = (sdH bs (lawCall p 3) (strMul ("r" : Str) ((bxEmpty (bxTk E bs p p.toNat)).getD 0 0))).2:=if_pos hb
       rw [e]
       have hem:=hO.emp (of_decide_eq_true hb)
       have hxr:=empty_at hem
       have hrf:=r_facts hxr
       have hR1 : ("R" : Str).length = 1:=by decide +kernel
       have hr1 : ("r" : Str).length = 1:=by decide +kernel
       refine Ex.asgSift (T:=tInt) (U:=tInt) (fun x1 : Int=>(Option.isNone (Option.map (·.2) (findH (bxTk E bs p p.toNat) (strMul ("R" : Str) x1))))) (fun x1 : Int=>x1) F (csc_of (ln:=["k"]) (cn:=[]) (fn:=["taken"]) (gn:=[]) (by decide +kernel)) (.consF F (i:=3) rfl rfl .nil) (.range (.callT (.glb F (i:=0) rfl (g_range hG)) (.cons .intC (.cons .intC .nil)) cal_range2) (by walk_at "sc") (by walk_at "sc") (by walk_at "sc") (by walk_at "sc")) (by walk_at "sc") (fun e1 a1 B1 x1 h1=>match a1,B1.len with | [],_=>⟨[some ⟨tInt,x1⟩],[],rfl,(As.loc B1.F (i:=0) rfl (lb rfl)),(.ofCmp cmp_isNoneO (Ev.meth (T:=tH) (x:=ka) (hd_G hG) (hm_get hG) (.var (B1.S.cel (i:=0) rfl (F.celIn (i:=3) rfl rfl rfl) _).var) (fun _ _ h=>h) rfl (EvA.cons (.mulS .strC (.var (B1.F.var (i:=0) rfl rfl)) (by walk_at "sc") (by walk_at "sc") (by walk_at "sc") (by have:=(r_facts (mem_intRange.mp h1)).1.1; rw [sizeLine_nat]; lia)) .nil).toK (CalK.at02 (i:=0) (cod_getN hG (by walk_at "sc") (by have:=(r_facts (mem_intRange.mp h1)).1.1; lia) (r_facts (mem_intRange.mp h1)).1.2).calK rfl)) .noneC),fun hp1=>(.var (B1.F.var (i:=0) rfl rfl))⟩) (As.loc F (i:=10) rfl (lb rfl)) ?_ (swL F (i:=10) rfl rfl rfl)
       have hxl : (strMul ("r" : Str) ((bxEmpty (bxTk E bs p p.toNat)).getD 0 0)).length ≤ 4:=hrf.2.1
       have hq3:=call_len hp 3
       have hel : (bxEmpty (bxTk E bs p p.toNat)).length ≤ 4:=by unfold bxEmpty; rw [List.length_map]; exact Nat.le_trans (List.length_filter_le _ _) (by rw [intRange_len]; decide)
       have hxr2 : 1 ≤ List.getD (bxEmpty (bxTk E bs p p.toNat)) (Int.toNat (0 : Int)) 0 ∧ List.getD (bxEmpty (bxTk E bs p p.toNat)) (Int.toNat (0 : Int)) 0 < 5:=hxr
       have hxl2 : (strMul ("r" : Str) (List.getD (bxEmpty (bxTk E bs p p.toNat)) (Int.toNat (0 : Int)) 0)).length ≤ 4:=hxl
       refine Ex.eff F (Ev.toMu (Ev.meth (mu₁:=VS env.locals ["last", "steps", "boxes", "outs", "fine", "out", "name", "row", "one", "turn", "empty"] [some ⟨tH,ta⟩,some ⟨tList (tPair tInt tInt),E.steps⟩,some ⟨tH,ba⟩,some ⟨tVal,.ref oa⟩,some ⟨tBool,true⟩,some ⟨tList tStr,bxOut E p⟩,some ⟨tStr,bxNm E p p.toNat⟩,none,none,none,some ⟨tList tInt,bxEmpty (bxTk E bs p p.toNat)⟩] [c0,c1,c2,c3] [some ⟨tH,la⟩,some ⟨tLS,E.names⟩,some ⟨tInt,p⟩,some ⟨tH,ka⟩] ++ (rHd ka (bxTk E bs p p.toNat) :: bxRes oa la ta ba E os bs)) (mu₂:=VS env.locals ["last", "steps", "boxes", "outs", "fine", "out", "name", "row", "one", "turn", "empty"] [some ⟨tH,ta⟩,some ⟨tList (tPair tInt tInt),E.steps⟩,some ⟨tH,ba⟩,some ⟨tVal,.ref oa⟩,some ⟨tBool,true⟩,some ⟨tList tStr,bxOut E p⟩,some ⟨tStr,bxNm E p p.toNat⟩,none,none,none,some ⟨tList tInt,bxEmpty (bxTk E bs p p.toNat)⟩] [c0,c1,c2,c3] [some ⟨tH,la⟩,some ⟨tLS,E.names⟩,some ⟨tInt,p⟩,some ⟨tH,ka⟩] ++ (rHd ka (bxTk E bs p p.toNat) :: bxRes oa la ta ba E os bs)) (T:=tH) (x:=ba) (U:=tStr) (y:=(sdH bs (lawCall p 3) (strMul ("r" : Str) ((bxEmpty (bxTk E bs p p.toNat)).getD 0 0))).1) (hd_G hG) (hm_setdefault hG) (.var (F.var (i:=2) rfl rfl)) (fun _ _ h=>h) rfl (EvA.cons (.callU (.glb F (i:=2) rfl (g_law_call hG)) (.cons (.var (F.celIn (i:=2) rfl rfl rfl).var) (.cons .intC .nil)) (ok_law_call hG) (cal_law_call hG (by walk_at "sc") (by walk_at "sc"))) (EvA.cons (.mulS .strC (.idxD (d:=0) (Ev.toL (.var (F.var (i:=10) rfl rfl))) .intC (by walk_at "sc") (by walk_at "sc")) (by walk_at "sc") (by walk_at "sc") (by walk_at "sc") (by walk_at "sc")) .nil)).toK (CalK.at (i:=4) (cod_setdefault hG hBf (by lia) (call_cleanL hp 3) (call_clean hp 3) hrf.2.2).calK rfl)) rfl) (fun K v ⟨t,e⟩ a=>by rw [e]; exact nofun) ?_
       exact Ex.wk (Wk.forget (by walk_at "forget")) (Ex.nil fun K=>⟨rfl,rfl⟩)
      case k =>
       refine Ex.app (T:=tList tStr) (x:=sortS (bxOut E p)) (xs:=os) (i:=1) F (.var (F.var (i:=3) rfl rfl)) ?ea rfl (by lia) ?_
       case ea=>exact (.callB (.glb F (i:=4) rfl (g_sorted hG)) (.cons (.var (F.var (i:=5) rfl rfl)) .nil) (cal_sortedS (by walk_at "sc")))
       exact Ex.endTo (Wk.trans (Wk.sub (List.Sublist.append_left (List.sublist_cons_self _ _) _)) (Wk.forgetA (by walk_at "forget") (by walk_at "forget")))
   ·have e5 : (intRange (0 : Int) 5).length = 5:=by rw [intRange_len]; rfl
    rw [e5]
    refine Ex.ghost (WkG.frzL (i:=3) (j:=0) rfl rfl) ?_
    exact Ex.ret (T:=tList tLS) (x:=bxOuts E 5) (Ev.conv (.ite (.val (.var (F.var (i:=4) rfl rfl)) tru_bool) (fun hite=>(.var (F.var (i:=3) rfl rfl))) (fun hite=>(.listD (T:=tLS) .nil (by walk_at "sc")))) (if_pos rfl)) dropVS
noncomputable def row0 (script : List Int) : List Int:=(List.map (fun x1 : Int=>(x1 % ((10 : Int) ^ Int.toNat (6 : Int)))) (pySlice script none (some (11 : Int))))
noncomputable def lawRow (script : List Int) : List Int:=((row0 script) ++ (pySlice [(1601 : Int),(2102 : Int),(3162 : Int),(2818 : Int),(1184 : Int),(959 : Int)] (some ((List.length (row0 script) : Nat) : Int)) none))
noncomputable def lawMarks (row : List Int) : List Int:=([(1 : Int)] ++ (List.map (fun x1 : Int=>(x1 / (320 : Int))) row))
noncomputable def lawNames (chains : List (List Int)) : List Str:=(List.map (fun x1 : List Int=>(Txt.join ("." : Str) (List.map (fun x2 : Int=>(lawCall x2 (0 : Int))) x1))) chains)
noncomputable def lawPaths (names : List Str) : List Str:=(List.map (fun x1 : Str=>(("/" : Str) ++ (Txt.replace x1 ("." : Str) ("/" : Str)))) names)
theorem row0_len {script : List Int} : (row0 script).length ≤ 11:=by
 unfold row0
 rw [List.length_map,pySlice_upto _ _ (by decide),List.length_take]
 exact Nat.min_le_left _ _
theorem lawRow_len {script : List Int} : 6 ≤ (lawRow script).length ∧ (lawRow script).length ≤ 11:=by
 have h:=row0_len (script:=script)
 unfold lawRow
 rw [List.length_append,pySlice_from _ _ (by lia),List.length_drop]
 show 6 ≤ _ + (6 - _) ∧ _ + (6 - _) ≤ 11
 lia
theorem str_len_app (a b : Str) : (a ++ b).length = a.length + b.length:=by show (a.cps ++ b.cps).size = _; rw [Array.size_append]; rfl
structure ChOk (chains : List (List Int)) : Prop where
 len : chains.length = 5
 mem : ∀ c ∈ chains,c ∈ allChains
theorem names_ok {chains : List (List Int)} (h : ChOk chains) : (lawNames chains).length = 5 ∧ ∀ s ∈ lawNames chains,NmOk s:=by
 refine ⟨by unfold lawNames; rw [List.length_map]; exact h.len,fun s hs=>?_⟩
 obtain ⟨c,hc,rfl⟩:=List.mem_map.mp hs
 exact nmOk (h.mem c hc)
set_option maxHeartbeats 4000000 in
theorem law_A (hG : TopOk G) (hTB : G.TB = 288) {c0 c1 c2 c3 c4 c5 c6 c7 c8 c9 c10 c11 : Addr} {script row : List Int} {Φ : Flow → KH → List Res → Prop} (F : FEnv env nL nC [c0,c1,c2,c3,c4,c5,c6,c7,c8,c9,c10,c11] nG) (hrow : row = lawRow script) (hs : script.length ≤ 1000) (hLc : LcFit (lawSteps row)) (hCh : ChOk (lcOver (lcFound (lawSteps row))))
  (k : Ex G (n + 8) env (VS env.locals nL [some ⟨tLI,script⟩,some ⟨tLI,row⟩,some ⟨tLI,(lawMarks row)⟩,none,none,none,none,none,none,none,none,none,none,none] [c0,c1,c2,c3,c4,c5,c6,c7,c8,c9,c10,c11] [some ⟨tLP,(lawSteps row)⟩,some ⟨tLL,(lcOver (lcFound (lawSteps row)))⟩,some ⟨tLS,(lawNames (lcOver (lcFound (lawSteps row))))⟩,some ⟨tLS,(lawPaths (lawNames (lcOver (lcFound (lawSteps row)))))⟩,none,none,none,none,none,none,none,none] ++ rTab 288 ⟨236,30,236,52⟩ :: mu) ((defBody (topSt 28)).drop 6) Φ) : Ex G (n + 8) env (VS env.locals nL [some ⟨tLI,script⟩,none,none,none,none,none,none,none,none,none,none,none,none,none] [c0,c1,c2,c3,c4,c5,c6,c7,c8,c9,c10,c11] [none,none,none,none,none,none,none,none,none,none,none,none] ++ rTab 288 ⟨236,30,236,52⟩ :: mu) (defBody (topSt 28)) Φ:=by
 have hl:=lawRow_len (script:=script)
 have hl0:=row0_len (script:=script)
 rw [← hrow] at hl
 refine Ex.asgMap (T:=tInt) (U:=tInt) (fun x1 : Int=>(x1 % ((10 : Int) ^ Int.toNat (6 : Int)))) F (csc_of (ln:=["n"]) (cn:=[]) (fn:=[]) (gn:=[]) (by decide +kernel)) .nil (.list (.slice (Ev.toL (.var (F.var (i:=0) rfl rfl))) .none (.some .intC) (by walk_at "sc"))) (by walk_at "sc") (fun e1 a1 B1 x1 h1=>match a1,B1.len with | [],_=>⟨[some ⟨tInt,x1⟩],[],rfl,(As.loc B1.F (i:=0) rfl (lb rfl)),(.fmod (.var (B1.F.var (i:=0) rfl rfl)) (.pow .intC .intC (by walk_at "sc") (by walk_at "sc")) (by walk_at "sc"))⟩) (As.loc F (i:=1) rfl (lb rfl)) ?_ (swL F (i:=1) rfl rfl rfl)
 refine Ex.wk (mu₁:=VS env.locals nL [some ⟨tLI,script⟩,some ⟨tLI,(row0 script)⟩,none,none,none,none,none,none,none,none,none,none,none,none] [c0,c1,c2,c3,c4,c5,c6,c7,c8,c9,c10,c11] [none,none,none,none,none,none,none,none,none,none,none,none] ++ rTab 288 ⟨236,30,236,52⟩ :: mu) Wk.refl ?_
 refine Ex.asg (T:=tLI) (x:=lawRow script) (.addL (.var (F.var (i:=1) rfl rfl)) (.slice (Ev.toL (.listD (T:=tInt) (.cons .intC (.cons .intC (.cons .intC (.cons .intC (.cons .intC (.cons .intC .nil)))))) (by walk_at "sc"))) (.some (.callB (.glb F (i:=0) rfl (g_len hG)) (.cons (.var (F.var (i:=1) rfl rfl)) .nil) (cal_lenL (by walk_at "sc")))) .none (by walk_at "sc")) (by have:=pySlice_le ([1601,2102,3162,2818,1184,959] : List Int) (some (((row0 script).length : Nat) : Int)) none; simp only [List.length_cons,List.length_nil] at this; rw [sizeLine_nat]; lia)) (As.loc F (i:=1) rfl (lb rfl)) ?_
 rw [← hrow]
 clear hrow hl0
 have hsl:=lawSteps_len row
 obtain ⟨hnl,hN⟩:=names_ok hCh
 refine Ex.asg (x:=(lawSteps row,lawMarks row)) (.pair (.callU (.glb F (i:=1) rfl (g_law_steps hG)) (.cons (.var (F.var (i:=1) rfl rfl)) .nil) (ok_law_steps hG) (cal_law_steps hG (by walk_at "sc") (by walk_at "sc"))) (.addL (.listD (T:=tInt) (.cons .intC .nil) (by walk_at "sc")) (.map (T:=tInt) (U:=tInt) (fun x1 : Int=>(x1 / (320 : Int))) F (csc_of (ln:=["n"]) (cn:=[]) (fn:=[]) (gn:=[]) (by decide +kernel)) .nil (.list (.var (F.var (i:=1) rfl rfl))) (by walk_at "sc") (fun e1 a1 B1 x1 h1=>match a1,B1.len with | [],_=>⟨[some ⟨tInt,x1⟩],[],rfl,(As.loc B1.F (i:=0) rfl (lb rfl)),(.fdiv (.var (B1.F.var (i:=0) rfl rfl)) .intC (by walk_at "sc") (by walk_at "sc"))⟩)) (by walk_at "sc"))) (As.pair (As.cel F (i:=0) rfl rfl (lb rfl)) (As.loc F (i:=2) rfl (lb rfl))) ?_ rfl rfl (sw2a F (i:=0) rfl)
 refine Ex.asg (T:=tLL) (x:=lcOver (lcFound (lawSteps row))) (.callU (.glb F (i:=2) rfl (g_law_chains hG)) (.cons (.var (F.celIn (i:=0) rfl rfl rfl).var) .nil) (ok_law_chains hG) ((cal_law_chains hG hTB hLc).at (i:=0) rfl)) (As.cel F (i:=1) rfl rfl (lb rfl)) ?_
 generalize hg : lcOver (lcFound (lawSteps row)) = chains at *
 have hcl:=hCh.len
 have hO1 : ("/" : Str).length = 1:=by decide +kernel
 refine Ex.asg (T:=tLS) (x:=lawNames chains) (.map (T:=tLI) (U:=tStr) (fun x1 : List Int=>(Txt.join ("." : Str) (List.map (fun x2 : Int=>(lawCall x2 (0 : Int))) x1))) F (csc_of (ln:=["chain"]) (cn:=[]) (fn:=[]) (gn:=[]) (by decide +kernel)) .nil (.list (.var (F.celIn (i:=1) rfl rfl rfl).var)) (by walk_at "sc") (fun e1 a1 B1 x1 h1=>match a1,B1.len with | [],_=>⟨[some ⟨tLI,x1⟩],[],rfl,(As.loc B1.F (i:=0) rfl (lb rfl)),(.join .strC (.map (T:=tInt) (U:=tStr) (fun x2 : Int=>(lawCall x2 (0 : Int))) B1.F (csc_of (ln:=["d"]) (cn:=[]) (fn:=[]) (gn:=["_law_call"]) (by decide +kernel)) .nil (.list (.var (B1.F.var (i:=0) rfl rfl))) (by have:=(chain_mem (hCh.mem x1 h1)).1; rw [sizeLine_nat]; lia) (fun e2 a2 B2 x2 h2=>match a2,B2.len with | [],_=>⟨[some ⟨tInt,x2⟩],[],rfl,(As.loc B2.F (i:=0) rfl (lb rfl)),(.callU (.glb B2.F (i:=0) rfl (g_law_call hG)) (.cons (.var (B2.F.var (i:=0) rfl rfl)) (.cons .intC .nil)) (ok_law_call hG) (cal_law_call hG (by have:=(chain_mem (hCh.mem x1 h1)).2 x2 h2; lia) (by have:=(chain_mem (hCh.mem x1 h1)).2 x2 h2; lia)))⟩)) (join_le (b:=5) (c:=5) (fun x hx=>by obtain ⟨d,hd,rfl⟩:=List.mem_map.mp hx; exact call_len ((chain_mem (hCh.mem x1 h1)).2 d hd) 0) (by rw [List.length_map]; exact (chain_mem (hCh.mem x1 h1)).1) (by decide +kernel)))⟩)) (As.cel F (i:=2) rfl rfl (lb rfl)) ?_ rfl (swC F (i:=2) rfl) rfl
 refine Ex.asg (T:=tLS) (x:=lawPaths (lawNames chains)) (.map (T:=tStr) (U:=tStr) (fun x1 : Str=>(("/" : Str) ++ (Txt.replace x1 ("." : Str) ("/" : Str)))) F (csc_of (ln:=["name"]) (cn:=[]) (fn:=[]) (gn:=[]) (by decide +kernel)) .nil (.list (.var (F.celIn (i:=2) rfl rfl rfl).var)) (by walk_at "sc") (fun e1 a1 B1 x1 h1=>match a1,B1.len with | [],_=>⟨[some ⟨tStr,x1⟩],[],rfl,(As.loc B1.F (i:=0) rfl (lb rfl)),(.cat .strC (.replace hG.t (.var (B1.F.var (i:=0) rfl rfl)) (by decide +kernel) (by have:=(hN x1 h1).len; rw [hO1]; lia)) (by have:=(hN x1 h1).r1; rw [hO1,sizeLine_nat]; lia))⟩)) (As.cel F (i:=3) rfl rfl (lb rfl)) ?_ rfl (swC F (i:=3) rfl) rfl
 exact k
end
noncomputable def askL (g : Ig) : List (Str × Int) → List (Option Str × Str) → List Int × List (Str × Int)
 | kvs,[]=>([],kvs)
 | kvs,q :: r=>((igNames g kvs q.1 q.2).1 :: (askL g (igNames g kvs q.1 q.2).2 r).1,(askL g (igNames g kvs q.1 q.2).2 r).2)
theorem askL_snoc (g : Ig) : ∀ (l : List (Option Str × Str)) (kvs : List (Str × Int)) (q : Option Str × Str),askL g kvs (l ++ [q]) = ((askL g kvs l).1 ++ [(igNames g (askL g kvs l).2 q.1 q.2).1],(igNames g (askL g kvs l).2 q.1 q.2).2)
 | [],kvs,q=>rfl
 | a :: l,kvs,q=>by
  have:=askL_snoc g l (igNames g kvs a.1 a.2).2 q
  rw [List.cons_append,askL,this]; rfl
theorem igNames_len (g : Ig) (kvs : List (Str × Int)) (f : Option Str) (m : Str) : (igNames g kvs f m).2.length ≤ kvs.length + 1:=by
 unfold igNames
 cases atD kvs m with
 | some j=>exact Nat.le_succ _
 | none=>simp
theorem askL_len (g : Ig) : ∀ (l : List (Option Str × Str)) (kvs : List (Str × Int)),(askL g kvs l).1.length = l.length ∧ (askL g kvs l).2.length ≤ kvs.length + l.length
 | [],kvs=>⟨rfl,Nat.le_refl _⟩
 | a :: l,kvs=>by
  obtain ⟨h1,h2⟩:=askL_len g l (igNames g kvs a.1 a.2).2
  have h3:=igNames_len g kvs a.1 a.2
  refine ⟨?_,?_⟩
  ·show (_ :: _ : List Int).length = _
   rw [List.length_cons,h1,List.length_cons]
  ·show (askL g (igNames g kvs a.1 a.2).2 l).2.length ≤ _
   rw [List.length_cons]; lia
noncomputable def ig0 : Ig:=⟨[],[],0⟩
theorem getD_get {α : Type} {l : List α} {i : Nat} {d : α} (h : i < l.length) : l[i]? = some (l.getD i d):=by
 rw [List.getD_eq_getElem?_getD,List.getElem?_eq_getElem h]; rfl
section
variable {G : Gl} {n : Nat} {env : Env} {mu mu₁ mu₂ W R : List Res} {id : Str} {p' p2 pos q ap : Pos}
structure LawBase (row : List Int) (steps : List (Int × Int)) (marks : List Int) (chains : List (List Int)) (names paths : List Str) : Prop where
 hr : 6 ≤ row.length ∧ row.length ≤ 11
 hs : steps.length ≤ 12 ∧ ∀ p ∈ steps,(0 ≤ p.1 ∧ p.1 < 5) ∧ (0 ≤ p.2 ∧ p.2 < 5)
 hm : marks.length ≤ 12
 ch : ChOk chains
 nm : names = lawNames chains
 pa : paths = lawPaths names
noncomputable def hdRow (names : List Str) (sm : (Int × Int) × Int) : Str × Str:=(lawCall sm.1.2 sm.2,names.getD sm.1.1.toNat Str.empty)
noncomputable def lawRows (steps : List (Int × Int)) (marks : List Int) (names : List Str) : List (Str × Str):=(steps.zip marks).map (hdRow names)
noncomputable def mkIn (nm : Str) (d : Addr) : Ig:=⟨[nm],[],d⟩
noncomputable def mkOut (nm : Str) (d : Addr) : Ig:=⟨[],[folderOf nm].map normP,d⟩
structure WE where
 heads : List (Str × Str)
 names : List Str
 paths : List Str
 inG : List Ig
 outG : List Ig
structure WS where
 live : List (Str × Str)
 last : List (Str × Str)
 boxes : List (Str × Str)
 inn : List (List (Str × Int))
 out : List (List (Str × Int))
noncomputable def lawEnv (steps : List (Int × Int)) (marks : List Int) (names paths : List Str) (is1 is2 : List Addr) : WE:=⟨lawRows steps marks names,names,paths,List.zipWith mkIn names is1,List.zipWith mkOut names is2⟩
noncomputable def ws0 : WS:=⟨[],[],[],List.replicate 5 ig1,List.replicate 5 ig1⟩
noncomputable def lRes (G : Gl) (mu : List Res) (E : WE) (ha la ta ba : Addr) (st : WS) : List Res:=rHd ha E.heads :: rHd la st.live :: rHd ta st.last :: rHd ba st.boxes :: (igR G E.inG st.inn ++ (igR G E.outG st.out ++ (rTab 288 ⟨236,30,236,52⟩ :: mu)))
structure WFit (E : WE) : Prop where
 hh : HdFit E.heads
 hl : E.heads.length ≤ 20
 names : E.names.length = 5
 paths : E.paths.length = 5
 inG : E.inG.length = 5
 outG : E.outG.length = 5
 nm : ∀ s ∈ E.names,NmOk s
 pl : ∀ s ∈ E.paths,s.length ≤ 50
 pa : ∀ i,i < 5 → E.paths.getD i Str.empty = pathOf (E.names.getD i Str.empty)
 inm : ∀ g ∈ E.inG,(∀ q ∈ g.mods,q.length ≤ 1000) ∧ ∀ q ∈ g.dirs,q.length ≤ 1000
 outm : ∀ g ∈ E.outG,(∀ q ∈ g.mods,q.length ≤ 1000) ∧ ∀ q ∈ g.dirs,q.length ≤ 1000
 src : ∀ kv ∈ E.heads,kv.2 ∈ E.names
theorem mem_zipWith {α β γ : Type} {f : α → β → γ} : ∀ {xs : List α} {ys : List β} {z : γ},z ∈ List.zipWith f xs ys → ∃ x y,x ∈ xs ∧ z = f x y
 | [],_,_,h=>by simp at h
 | _ :: _,[],_,h=>by simp at h
 | x :: xs,y :: ys,z,h=>by
  rw [List.zipWith_cons_cons] at h
  rcases List.mem_cons.mp h with h | h
  ·exact ⟨x,y,List.mem_cons_self,h⟩
  ·obtain ⟨a,b,h1,h2⟩:=mem_zipWith h; exact ⟨a,b,List.mem_cons_of_mem _ h1,h2⟩
theorem path_len {nm : Str} (h : NmOk nm) : (pathOf nm).length ≤ 41:=by
 have h2:=h.r1
 show (("/" : Str) ++ _).length ≤ 41
 rw [str_len_app]
 have e : ("/" : Str).length = 1:=by decide +kernel
 lia
theorem base_fit {row marks : List Int} {steps : List (Int × Int)} {chains : List (List Int)} {names paths : List Str} (hB : LawBase row steps marks chains names paths) {is1 is2 : List Addr} (h1 : is1.length = 5) (h2 : is2.length = 5) : WFit (lawEnv steps marks names paths is1 is2) ∧ (lawRows steps marks names).length ≤ 12:=by
 obtain ⟨hnl,hN⟩:=names_ok hB.ch
 rw [← hB.nm] at hnl hN
 have hl : (lawRows steps marks names).length ≤ 12:=by
  unfold lawRows
  rw [List.length_map,List.length_zip]
  have:=hB.hs.1; lia
 have hpl : paths.length = 5:=by rw [hB.pa]; unfold lawPaths; rw [List.length_map]; exact hnl
 have hrow : ∀ kv ∈ lawRows steps marks names,kv.1.length ≤ 5 ∧ kv.2 ∈ names:=fun kv hkv=>by
  obtain ⟨sm,q1,rfl⟩:=List.mem_map.mp hkv
  have q2:=hB.hs.2 sm.1 (List.of_mem_zip q1).1
  exact ⟨call_len q2.2 sm.2,getD_memL (by show _ < names.length; lia)⟩
 refine ⟨⟨⟨by show (lawRows steps marks names).length ≤ _; lia,fun kv hkv=>?_⟩,by show (lawRows steps marks names).length ≤ 20; lia,hnl,hpl,by show (List.zipWith mkIn names is1).length = 5; rw [List.length_zipWith]; lia,by show (List.zipWith mkOut names is2).length = 5; rw [List.length_zipWith]; lia,hN,fun s hs=>?_,fun i hi=>?_,fun g hg=>?_,fun g hg=>?_,fun kv hkv=>(hrow kv hkv).2⟩,hl⟩
 ·have a:=hrow kv hkv
  have b:=(hN _ a.2).len
  exact ⟨by lia,by lia⟩
 ·have hs : s ∈ paths:=hs
  rw [hB.pa] at hs
  obtain ⟨nm,q1,rfl⟩:=List.mem_map.mp hs
  exact Nat.le_trans (path_len (hN nm q1)) (by decide)
 ·show paths.getD i Str.empty = pathOf (names.getD i Str.empty)
  rw [hB.pa]
  unfold lawPaths
  rw [List.getD_eq_getElem?_getD,List.getD_eq_getElem?_getD,List.getElem?_map,List.getElem?_eq_getElem (by lia)]
  rfl
 ·obtain ⟨nm,d,q1,rfl⟩:=mem_zipWith hg
  refine ⟨fun q hq=>?_,fun q hq=>by simp [mkIn] at hq⟩
  have : q = nm:=List.mem_singleton.mp hq
  subst this
  have:=(hN _ q1).len; lia
 ·obtain ⟨nm,d,q1,rfl⟩:=mem_zipWith hg
  refine ⟨fun q hq=>by simp [mkOut] at hq,fun q hq=>?_⟩
  have e : q = normP (folderOf nm):=List.mem_singleton.mp hq
  rw [e,(hN _ q1).np]
  exact Nat.le_trans (path_len (hN nm q1)) (by decide)
set_option maxHeartbeats 4000000 in
theorem law_B (hG : TopOk G) {c0 c1 c2 c3 c4 c5 c6 c7 c8 c9 c10 c11 : Addr} {script row marks : List Int} {steps : List (Int × Int)} {chains : List (List Int)} {names paths : List Str} {Φ : Flow → KH → List Res → Prop} (F : FEnv env nL nC [c0,c1,c2,c3,c4,c5,c6,c7,c8,c9,c10,c11] nG) (hB : LawBase row steps marks chains names paths)
  (k : ∀ (is1 is2 : List Addr) (ha la ta ba : Addr),is1.length = 5 → is2.length = 5 → Ex G (n + 8) env (VS env.locals nL [some ⟨tLI,script⟩,some ⟨tLI,row⟩,some ⟨tLI,marks⟩,some ⟨tH,ha⟩,some ⟨tH,la⟩,some ⟨tH,ta⟩,none,none,none,none,none,none,none,none] [c0,c1,c2,c3,c4,c5,c6,c7,c8,c9,c10,c11] [some ⟨tLP,steps⟩,some ⟨tLL,chains⟩,some ⟨tLS,names⟩,some ⟨tLS,paths⟩,some ⟨(tList (tIg G 265)),(List.zipWith mkIn names is1)⟩,some ⟨(tList (tIg G 265)),(List.zipWith mkOut names is2)⟩,some ⟨tH,ba⟩,none,none,none,none,none] ++ lRes G mu (lawEnv steps marks names paths is1 is2) ha la ta ba ws0) ((defBody (topSt 28)).drop 11) Φ) : Ex G (n + 8) env (VS env.locals nL [some ⟨tLI,script⟩,some ⟨tLI,row⟩,some ⟨tLI,marks⟩,none,none,none,none,none,none,none,none,none,none,none] [c0,c1,c2,c3,c4,c5,c6,c7,c8,c9,c10,c11] [some ⟨tLP,steps⟩,some ⟨tLL,chains⟩,some ⟨tLS,names⟩,some ⟨tLS,paths⟩,none,none,none,none,none,none,none,none] ++ rTab 288 ⟨236,30,236,52⟩ :: mu) ((defBody (topSt 28)).drop 6) Φ:=by
 obtain ⟨hnl,hN⟩:=names_ok hB.ch
 rw [← hB.nm] at hnl hN
 refine Ex.asgX (ι:={is : List Addr // is.length = names.length}) (M:=fun is=>VS env.locals nL [some ⟨tLI,script⟩,some ⟨tLI,row⟩,some ⟨tLI,marks⟩,none,none,none,none,none,none,none,none,none,none,none] [c0,c1,c2,c3,c4,c5,c6,c7,c8,c9,c10,c11] [some ⟨tLP,steps⟩,some ⟨tLL,chains⟩,some ⟨tLS,names⟩,some ⟨tLS,paths⟩,none,none,none,none,none,none,none,none] ++ (is.1.map (fun d=>rDict G d ig1) ++ (rTab 288 ⟨236,30,236,52⟩ :: mu))) (Tv:=fun is=>⟨tList (tIg G 265),List.zipWith mkIn names is.1⟩) (M':=fun is=>_) (EvX.compMake (T:=tStr) (U:=tIg G 265) (W:=VS env.locals nL [some ⟨tLI,script⟩,some ⟨tLI,row⟩,some ⟨tLI,marks⟩,none,none,none,none,none,none,none,none,none,none,none] [c0,c1,c2,c3,c4,c5,c6,c7,c8,c9,c10,c11] [some ⟨tLP,steps⟩,some ⟨tLL,chains⟩,some ⟨tLS,names⟩,some ⟨tLS,paths⟩,none,none,none,none,none,none,none,none]) (R:=rTab 288 ⟨236,30,236,52⟩ :: mu) (fun d=>rDict G d ig1) mkIn F (csc_of (ln:=["name"]) (cn:=[]) (fn:=[]) (gn:=["_Ignore"]) (by decide +kernel)) .nil (.list (.var (F.celIn (i:=2) rfl rfl rfl).var)) (by rw [sizeLine_nat]; lia) (fun e1 a1 B1 x hx R'=>match a1,B1.len with | [],_=>⟨[some ⟨tStr,x⟩],[],rfl,(As.loc B1.F (i:=0) rfl (lb rfl)),EvX.make (ig_K hG) (.glb B1.F (i:=0) rfl (g_Ignore hG)) (EvA.cons (.listD (T:=tStr) (.cons (.var (B1.F.var (i:=0) rfl rfl)) .nil) (by walk_at "sc")) .nil).toK (cod_mk1 hG (ms:=[x]) (by simp) (by simp)).cal⟩)) (fun is=>(As.cel F (i:=4) rfl rfl (lb rfl))) (fun is=>?_) rfl (swC F (i:=4) rfl) rfl
 obtain ⟨is1,hi1⟩:=is
 have hO1 : ("/" : Str).length = 1:=by decide +kernel
 have hO2 : ("//" : Str).length = 2:=by decide +kernel
 have hO3 : ("/." : Str).length = 2:=by decide +kernel
 refine Ex.asgX (ι:={is : List Addr // is.length = names.length}) (M:=fun is=>VS env.locals nL [some ⟨tLI,script⟩,some ⟨tLI,row⟩,some ⟨tLI,marks⟩,none,none,none,none,none,none,none,none,none,none,none] [c0,c1,c2,c3,c4,c5,c6,c7,c8,c9,c10,c11] [some ⟨tLP,steps⟩,some ⟨tLL,chains⟩,some ⟨tLS,names⟩,some ⟨tLS,paths⟩,some ⟨(tList (tIg G 265)),(List.zipWith mkIn names is1)⟩,none,none,none,none,none,none,none] ++ (is.1.map (fun d=>rDict G d ig1) ++ (is1.map (fun d=>rDict G d ig1) ++ (rTab 288 ⟨236,30,236,52⟩ :: mu)))) (Tv:=fun is=>⟨tList (tIg G 265),List.zipWith mkOut names is.1⟩) (M':=fun is=>_) (EvX.compMake (T:=tStr) (U:=tIg G 265) (W:=VS env.locals nL [some ⟨tLI,script⟩,some ⟨tLI,row⟩,some ⟨tLI,marks⟩,none,none,none,none,none,none,none,none,none,none,none] [c0,c1,c2,c3,c4,c5,c6,c7,c8,c9,c10,c11] [some ⟨tLP,steps⟩,some ⟨tLL,chains⟩,some ⟨tLS,names⟩,some ⟨tLS,paths⟩,some ⟨(tList (tIg G 265)),(List.zipWith mkIn names is1)⟩,none,none,none,none,none,none,none]) (R:=(is1.map (fun d=>rDict G d ig1) ++ (rTab 288 ⟨236,30,236,52⟩ :: mu))) (fun d=>rDict G d ig1) mkOut F (csc_of (ln:=["name"]) (cn:=[]) (fn:=[]) (gn:=["_Ignore"]) (by decide +kernel)) .nil (.list (.var (F.celIn (i:=2) rfl rfl rfl).var)) (by rw [sizeLine_nat]; lia) (fun e1 a1 B1 x hx R'=>match a1,B1.len with | [],_=>⟨[some ⟨tStr,x⟩],[],rfl,(As.loc B1.F (i:=0) rfl (lb rfl)),EvX.make (ig_K hG) (.glb B1.F (i:=0) rfl (g_Ignore hG)) (EvA.cons .noneC (EvA.cons (.listD (T:=tStr) (.cons (.cat (.cat .strC (.replace hG.t (.var (B1.F.var (i:=0) rfl rfl)) (by decide +kernel) (by have:=(hN x hx).len; rw [hO2]; lia)) (by have:=(hN x hx).r2; rw [hO1,sizeLine_nat]; lia)) .strC (by have:=(hN x hx).r2; rw [str_len_app,hO1,hO3,sizeLine_nat]; lia)) .nil) (by walk_at "sc")) .nil)).toK (cod_mk2 hG (ms:=[]) (ds:=[folderOf x]) .none (by simp) (by simp) (fun d hd=>by rw [List.mem_singleton.mp hd]; exact (hN x hx).nf) (by simp)).cal⟩)) (fun is=>(As.cel F (i:=5) rfl rfl (lb rfl))) (fun is=>?_) rfl (swC F (i:=5) rfl) rfl
 obtain ⟨is2,hi2⟩:=is
 refine Ex.asgX (ι:=Addr × Addr × Addr × Addr) (M:=fun q=>VS env.locals nL [some ⟨tLI,script⟩,some ⟨tLI,row⟩,some ⟨tLI,marks⟩,none,none,none,none,none,none,none,none,none,none,none] [c0,c1,c2,c3,c4,c5,c6,c7,c8,c9,c10,c11] [some ⟨tLP,steps⟩,some ⟨tLL,chains⟩,some ⟨tLS,names⟩,some ⟨tLS,paths⟩,some ⟨(tList (tIg G 265)),(List.zipWith mkIn names is1)⟩,some ⟨(tList (tIg G 265)),(List.zipWith mkOut names is2)⟩,none,none,none,none,none,none] ++ (rHd q.2.2.2 [] :: rHd q.2.2.1 [] :: rHd q.2.1 [] :: rHd q.1 [] :: (is2.map (fun d=>rDict G d ig1) ++ (is1.map (fun d=>rDict G d ig1) ++ (rTab 288 ⟨236,30,236,52⟩ :: mu))))) (Tv:=fun q=>⟨tQuad tH tH tH tH,q⟩) (M':=fun q=>_) (EvX.quad (W:=VS env.locals nL [some ⟨tLI,script⟩,some ⟨tLI,row⟩,some ⟨tLI,marks⟩,none,none,none,none,none,none,none,none,none,none,none] [c0,c1,c2,c3,c4,c5,c6,c7,c8,c9,c10,c11] [some ⟨tLP,steps⟩,some ⟨tLL,chains⟩,some ⟨tLS,names⟩,some ⟨tLS,paths⟩,some ⟨(tList (tIg G 265)),(List.zipWith mkIn names is1)⟩,some ⟨(tList (tIg G 265)),(List.zipWith mkOut names is2)⟩,none,none,none,none,none,none]) (R:=(is2.map (fun d=>rDict G d ig1) ++ (is1.map (fun d=>rDict G d ig1) ++ (rTab 288 ⟨236,30,236,52⟩ :: mu)))) (r:=fun a=>rHd a []) (T:=tH) (fun e W R he=>?mk)) (fun q=>.quad (As.loc F (i:=3) rfl (lb rfl)) (As.loc F (i:=4) rfl (lb rfl)) (As.loc F (i:=5) rfl (lb rfl)) (As.cel F (i:=6) rfl rfl (lb rfl))) (fun q=>?_) rfl rfl (sw4d F (i:=6) rfl)
 case mk =>
  have mk : ∀ (p p' : Pos),EvX G (n + 8) env (W ++ R) (.Call (.Name "Headers" p) [] [] p') (fun K v mu'=>∃ a,mu' = (fun a=>W ++ (rHd a [] :: R)) a ∧ tH.rel K v a):=fun p p' =>
   EvX.front (r:=fun a=>rHd a []) (EvX.make (hd_K hG) (.glb F (i:=3) rfl (g_Headers hG)) EvAK.none (cod_hd hG).cal)
  simp only [List.mem_cons,List.not_mem_nil,or_false] at he
  rcases he with rfl | rfl | rfl | rfl <;> exact mk _ _
 obtain ⟨ha,la,ta,ba⟩:=q
 refine Ex.wk (Wk.perm perm_rev4) ?_
 rw [igR_new (G:=G) (g:=mkIn) (fun _ _=>rfl) names is1 hi1,igR_new (G:=G) (g:=mkOut) (fun _ _=>rfl) names is2 hi2,hnl]
 obtain ⟨hE,hrl⟩:=base_fit hB (is1:=is1) (is2:=is2) (by lia) (by lia)
 have hfit : ∀ k,HdFit (((steps.zip marks).take k).map (hdRow names)) ∧ (((steps.zip marks).take k).map (hdRow names)).length ≤ 12:=fun k=>by
  have e : ((steps.zip marks).take k).map (hdRow names) = (lawRows steps marks names).take k:=by unfold lawRows; rw [List.map_take]
  rw [e]
  have hl : ((lawRows steps marks names).take k).length ≤ 12:=by rw [List.length_take]; lia
  exact ⟨⟨by lia,fun kv hkv=>hE.hh.2 kv (List.mem_of_mem_take hkv)⟩,hl⟩
 refine Ex.forK (T:=tPair (tPair tInt tInt) tInt) (xs:=steps.zip marks) (fun k=>VS env.locals nL [some ⟨tLI,script⟩,some ⟨tLI,row⟩,some ⟨tLI,marks⟩,some ⟨tH,ha⟩,some ⟨tH,la⟩,some ⟨tH,ta⟩,none,none,none,none,none,none,none,none] [c0,c1,c2,c3,c4,c5,c6,c7,c8,c9,c10,c11] [some ⟨tLP,steps⟩,some ⟨tLL,chains⟩,some ⟨tLS,names⟩,some ⟨tLS,paths⟩,some ⟨(tList (tIg G 265)),(List.zipWith mkIn names is1)⟩,some ⟨(tList (tIg G 265)),(List.zipWith mkOut names is2)⟩,some ⟨tH,ba⟩,none,none,none,none,none] ++ (rHd ha (((steps.zip marks).take k).map (hdRow names)) :: rHd la [] :: rHd ta [] :: rHd ba [] :: (igR G (List.zipWith mkIn names is1) (List.replicate 5 ig1) ++ (igR G (List.zipWith mkOut names is2) (List.replicate 5 ig1) ++ (rTab 288 ⟨236,30,236,52⟩ :: mu))))) (.zip (.glb F (i:=4) rfl (g_zip hG)) (.cons (.var (F.celIn (i:=0) rfl rfl rfl).var) (.cons (.var (F.var (i:=2) rfl rfl)) .nil))) (fun k sm hk=>⟨_,.pair (As.loc F (i:=6) rfl (lb rfl)) (As.loc F (i:=7) rfl (lb rfl)),?_⟩) ?_
 ·have hsm:=List.mem_of_getElem? hk
  have h2:=hB.hs.2 sm.1 (List.of_mem_zip hsm).1
  have hv:=hN _ (getD_memL (l:=names) (i:=sm.1.1.toNat) (d:=Str.empty) (by lia))
  have hvl:=hv.len
  have e : ((steps.zip marks).take (k + 1)).map (hdRow names) = ((steps.zip marks).take k).map (hdRow names) ++ [hdRow names sm]:=by rw [take_snoc hk,List.map_append]; rfl
  rw [e]
  exact Ex.eff F (Ev.toMu (Ev.meth (mu₁:=VS env.locals nL [some ⟨tLI,script⟩,some ⟨tLI,row⟩,some ⟨tLI,marks⟩,some ⟨tH,ha⟩,some ⟨tH,la⟩,some ⟨tH,ta⟩,some ⟨(tPair tInt tInt),sm.1⟩,some ⟨tInt,sm.2⟩,none,none,none,none,none,none] [c0,c1,c2,c3,c4,c5,c6,c7,c8,c9,c10,c11] [some ⟨tLP,steps⟩,some ⟨tLL,chains⟩,some ⟨tLS,names⟩,some ⟨tLS,paths⟩,some ⟨(tList (tIg G 265)),(List.zipWith mkIn names is1)⟩,some ⟨(tList (tIg G 265)),(List.zipWith mkOut names is2)⟩,some ⟨tH,ba⟩,none,none,none,none,none] ++ (rHd ha (((steps.zip marks).take k).map (hdRow names)) :: rHd la [] :: rHd ta [] :: rHd ba [] :: (igR G (List.zipWith mkIn names is1) (List.replicate 5 ig1) ++ (igR G (List.zipWith mkOut names is2) (List.replicate 5 ig1) ++ (rTab 288 ⟨236,30,236,52⟩ :: mu))))) (mu₂:=VS env.locals nL [some ⟨tLI,script⟩,some ⟨tLI,row⟩,some ⟨tLI,marks⟩,some ⟨tH,ha⟩,some ⟨tH,la⟩,some ⟨tH,ta⟩,some ⟨(tPair tInt tInt),sm.1⟩,some ⟨tInt,sm.2⟩,none,none,none,none,none,none] [c0,c1,c2,c3,c4,c5,c6,c7,c8,c9,c10,c11] [some ⟨tLP,steps⟩,some ⟨tLL,chains⟩,some ⟨tLS,names⟩,some ⟨tLS,paths⟩,some ⟨(tList (tIg G 265)),(List.zipWith mkIn names is1)⟩,some ⟨(tList (tIg G 265)),(List.zipWith mkOut names is2)⟩,some ⟨tH,ba⟩,none,none,none,none,none] ++ (rHd ha (((steps.zip marks).take k).map (hdRow names)) :: rHd la [] :: rHd ta [] :: rHd ba [] :: (igR G (List.zipWith mkIn names is1) (List.replicate 5 ig1) ++ (igR G (List.zipWith mkOut names is2) (List.replicate 5 ig1) ++ (rTab 288 ⟨236,30,236,52⟩ :: mu))))) (T:=tH) (x:=ha) (U:=tNone) (y:=()) (hd_G hG) (hm_add_header hG) (.var (F.var (i:=3) rfl rfl)) (fun _ _ h=>h) rfl (EvA.cons (.callU (.glb F (i:=5) rfl (g_law_call hG)) (.cons (.snd (.var (F.var (i:=6) rfl rfl)) .intC) (.cons (.var (F.var (i:=7) rfl rfl)) .nil)) (ok_law_call hG) (cal_law_call hG (by walk_at "sc") (by walk_at "sc"))) (EvA.cons (.idxD (d:=Str.empty) (Ev.toL (.var (F.celIn (i:=2) rfl rfl rfl).var)) (.fst (.var (F.var (i:=6) rfl rfl)) .intC) (by walk_at "sc") (by walk_at "sc")) .nil)).toK (CalK.at (i:=0) (cod_add_header hG (nm:=lawCall sm.1.2 sm.2) (val:=names.getD sm.1.1.toNat Str.empty) (hfit k).1 (call_clean h2.2 _) hv.clean (by lia)).calK rfl)) rfl) (fun K v e a=>by have e : v = .none:=e; rw [e]; exact nofun) (Ex.endTo (Wk.forget (by walk_at "forget")))
 ·rw [List.take_length]
  have hfit' : HdFit (lawRows steps marks names):=hE.hh
  have hml:=hB.hm
  have hsl:=hB.hs.1
  have hzl : (steps.zip marks).length ≤ 12:=by rw [List.length_zip]; lia
  refine Ex.wk (mu₁:=VS env.locals nL [some ⟨tLI,script⟩,some ⟨tLI,row⟩,some ⟨tLI,marks⟩,some ⟨tH,ha⟩,some ⟨tH,la⟩,some ⟨tH,ta⟩,none,none,none,none,none,none,none,none] [c0,c1,c2,c3,c4,c5,c6,c7,c8,c9,c10,c11] [some ⟨tLP,steps⟩,some ⟨tLL,chains⟩,some ⟨tLS,names⟩,some ⟨tLS,paths⟩,some ⟨(tList (tIg G 265)),(List.zipWith mkIn names is1)⟩,some ⟨(tList (tIg G 265)),(List.zipWith mkOut names is2)⟩,some ⟨tH,ba⟩,none,none,none,none,none] ++ lRes G mu (lawEnv steps marks names paths is1 is2) ha la ta ba ws0) Wk.refl ?_
  refine Ex.ifF (.ofCmp (cmp_neL (eqTy_pair_ (eqTy_str (d:=0)) (eqTy_str (d:=0)) det_str det_str)) (Ev.meth (T:=tH) (x:=ha) (hd_G hG) (hm_items hG) (.var (F.var (i:=3) rfl rfl)) (fun _ _ h=>h) rfl EvAK.none (CalK.at0 (i:=0) (cod_items hG hfit').calK rfl)) (.map (T:=(tPair (tPair tInt tInt) tInt)) (U:=(tPair tStr tStr)) (fun x1 : (Int × Int) × Int=>((lawCall x1.1.2 x1.2),(List.getD names (Int.toNat x1.1.1) Str.empty))) F (csc_of (ln:=["step", "mark"]) (cn:=[]) (fn:=["names"]) (gn:=["_law_call"]) (by decide +kernel)) (.consF F (i:=2) rfl rfl .nil) (.zip (.glb F (i:=4) rfl (g_zip hG)) (.cons (.var (F.celIn (i:=0) rfl rfl rfl).var) (.cons (.var (F.var (i:=2) rfl rfl)) .nil))) (by walk_at "sc") (fun e1 a1 B1 x1 h1=>match a1,B1.len with | [],_=>⟨[some ⟨(tPair tInt tInt),x1.1⟩,some ⟨tInt,x1.2⟩],[],rfl,(As.pair (As.loc B1.F (i:=0) rfl (lb rfl)) (As.loc B1.F (i:=1) rfl (lb rfl))),(.pair (.callU (.glb B1.F (i:=0) rfl (g_law_call hG)) (.cons (.snd (.var (B1.F.var (i:=0) rfl rfl)) .intC) (.cons (.var (B1.F.var (i:=1) rfl rfl)) .nil)) (ok_law_call hG) (cal_law_call hG (by have:=hB.hs.2 x1.1 (List.of_mem_zip h1).1; lia) (by have:=hB.hs.2 x1.1 (List.of_mem_zip h1).1; lia))) (.idxD (d:=Str.empty) (Ev.toL (.var (B1.S.cel (i:=0) rfl (F.celIn (i:=2) rfl rfl rfl) _).var)) (.fst (.var (B1.F.var (i:=0) rfl rfl)) .intC) (by have:=hB.hs.2 x1.1 (List.of_mem_zip h1).1; lia) (by walk_at "sc")))⟩))) ?hf ?_
  case hf =>
   rw [Bool.not_eq_false']
   exact decide_eq_true rfl
  exact k is1 is2 ha la ta ba (by lia) (by lia)
noncomputable def wsI (st : WS) (k : Nat) (v : List (Str × Int)) : WS:={ st with inn:=st.inn.set k v }
noncomputable def wsO (st : WS) (k : Nat) (v : List (Str × Int)) : WS:={ st with out:=st.out.set k v }
section
variable {E : WE} {ha la ta ba : Addr} {st : WS} {x : Nat} {g : Ig} {kv kv' : List (Str × Int)}
theorem igR_lt {gs : List Ig} {ks : List (List (Str × Int))} (h1 : gs[x]? = some g) (h2 : ks[x]? = some kv) : x < (igR G gs ks).length:=by
 have a:=(List.getElem?_eq_some_iff.mp h1).1
 have b:=(List.getElem?_eq_some_iff.mp h2).1
 unfold igR; rw [List.length_zipWith]; lia
theorem lRes_inn (h1 : E.inG[x]? = some g) (h2 : st.inn[x]? = some kv) : (lRes G mu E ha la ta ba st)[x + 4]? = some (rDict G g.d kv):=by
 unfold lRes
 simp only [List.getElem?_cons_succ]
 rw [List.getElem?_append_left (igR_lt h1 h2)]
 exact igR_get h1 h2
theorem lRes_setI (h1 : E.inG[x]? = some g) (h2 : st.inn[x]? = some kv) : (lRes G mu E ha la ta ba st).set (x + 4) (rDict G g.d kv') = lRes G mu E ha la ta ba (wsI st x kv'):=by
 unfold lRes wsI
 simp only [List.set_cons_succ]
 rw [List.set_append_left _ _ (igR_lt h1 h2),igR_set h1]
theorem lRes_out (h5 : (igR G E.inG st.inn).length = 5) (h1 : E.outG[x]? = some g) (h2 : st.out[x]? = some kv) : (lRes G mu E ha la ta ba st)[x + 9]? = some (rDict G g.d kv):=by
 unfold lRes
 rw [show x + 9 = (x + 5) + 4 from rfl]
 simp only [List.getElem?_cons_succ]
 rw [List.getElem?_append_right (by lia),h5,show x + 5 - 5 = x from rfl,List.getElem?_append_left (igR_lt h1 h2)]
 exact igR_get h1 h2
theorem lRes_setO (h5 : (igR G E.inG st.inn).length = 5) (h1 : E.outG[x]? = some g) (h2 : st.out[x]? = some kv) : (lRes G mu E ha la ta ba st).set (x + 9) (rDict G g.d kv') = lRes G mu E ha la ta ba (wsO st x kv'):=by
 unfold lRes wsO
 rw [show x + 9 = (x + 5) + 4 from rfl]
 simp only [List.set_cons_succ]
 rw [List.set_append_right _ _ (by lia),h5,show x + 5 - 5 = x from rfl,List.set_append_left _ _ (igR_lt h1 h2),igR_set h1]
end
noncomputable def updK {α : Type} (f : Nat → List α) (l : List (List α)) (k : Nat) : List (List α):=(List.range 5).map fun i=>if i < k then f i else l.getD i []
theorem updK_get {α : Type} {f : Nat → List α} {l : List (List α)} {k i : Nat} (h : i < 5) : (updK f l k)[i]? = some (if i < k then f i else l.getD i []):=by
 unfold updK
 rw [List.getElem?_map,List.getElem?_range h]
 simp
theorem updK_zero {α : Type} {f : Nat → List α} {l : List (List α)} (h : l.length = 5) : updK f l 0 = l:=by
 unfold updK
 apply List.ext_getElem
 ·simp [h]
 ·intro i h1 h2
  simp [List.getD_eq_getElem?_getD,List.getElem?_eq_getElem h2]
theorem updK_set {α : Type} {f : Nat → List α} {l : List (List α)} {k : Nat} {v : List α} (h : k < 5) (hv : v = f k) : (updK f l k).set k v = updK f l (k + 1):=by
 unfold updK
 apply List.ext_getElem
 ·simp
 ·intro i h1 h2
  rw [List.getElem_set]
  split
  ·rename_i e
   subst e
   simp [hv]
  ·rename_i e
   have : (i < k + 1) = (i < k):=by
    have : i ≠ k:=fun q=>e q.symm
    exact propext ⟨fun _=>by lia,fun _=>by lia⟩
   simp [this]
theorem updK_len {α : Type} {f : Nat → List α} {l : List (List α)} {k : Nat} : (updK f l k).length = 5:=by unfold updK; simp
noncomputable def qP (E : WE) (y : Int) : Option Str × Str:=(some (E.paths.getD y.toNat Str.empty),E.names.getD y.toNat Str.empty)
noncomputable def askIn (E : WE) (x : Nat) : List Int × List (Str × Int):=askL (E.inG.getD x ig0) ig1 ((intRange 0 5).map (qP E))
noncomputable def askOut (E : WE) (x : Nat) : List Int × List (Str × Int):=askL (E.outG.getD x ig0) ig1 ((intRange 0 5).map (qP E))
noncomputable def stK (E : WE) (k : Nat) : WS:=⟨[],[],[],updK (fun x=>(askIn E x).2) (List.replicate 5 ig1) k,updK (fun x=>(askOut E x).2) (List.replicate 5 ig1) k⟩
noncomputable def lawCame (steps : List (Int × Int)) (names : List Str) (v : Int) : List Str:=(List.map (fun x1 : Int × Int=>(List.getD names (Int.toNat x1.1) Str.empty)) (List.filter (fun x1 : Int × Int=>(decide (x1.2 = v))) steps))
noncomputable def inWant (chains : List (List Int)) (v : Int) : List Int:=(List.map (fun x1 : Int=>(if (decide (v ∈ (List.getD chains (Int.toNat x1) []))) = true then (1 : Int) else (0 : Int))) (intRange 0 (5 : Int)))
noncomputable def outWant (chains : List (List Int)) (v : Int) : List Int:=(List.map (fun x1 : Int=>(if (decide (v ∈ (pySlice (List.getD chains (Int.toNat x1) []) none (some (-(1 : Int)))))) = true then (1 : Int) else (0 : Int))) (intRange 0 (5 : Int)))
structure LawV (steps : List (Int × Int)) (chains : List (List Int)) (E : WE) (v : Int) : Prop where
 a1 : getAll E.heads (lawCall v 2) = lawCame steps E.names v
 a2 : Option.getD (Option.map (·.2) (findH E.heads (lawCall v 3))) ("" : Str) = List.getD (lawCame steps E.names v ++ [("" : Str)]) 0 Str.empty
 a3 : modnameP (E.paths.getD v.toNat Str.empty) = lawCall v 0
 b1 : (askIn E v.toNat).1 = inWant chains v
 b2 : (askOut E v.toNat).1 = outWant chains v
theorem path_ok {E : WE} (hE : WFit E) {v : Nat} (h : v < 5) : ModOk (E.paths.getD v Str.empty) ∧ (E.paths.getD v Str.empty).length ≤ 50:=by
 have:=hE.names
 rw [hE.pa v h]
 have hn:=hE.nm _ (getD_memL (l:=E.names) (i:=v) (d:=Str.empty) (by lia))
 exact ⟨hn.mp,Nat.le_trans (path_len hn) (by decide)⟩
set_option maxHeartbeats 2000000 in
theorem law_C (hG : TopOk G) {c0 c1 c2 c3 c4 c5 c6 c7 c8 c9 c10 c11 ha la ta ba : Addr} {script row marks : List Int} {steps : List (Int × Int)} {chains : List (List Int)} {E : WE} {Φ : Flow → KH → List Res → Prop} (F : FEnv env nL nC [c0,c1,c2,c3,c4,c5,c6,c7,c8,c9,c10,c11] nG) (hE : WFit E) (hs : steps.length ≤ 12 ∧ ∀ p ∈ steps,(0 ≤ p.1 ∧ p.1 < 5) ∧ (0 ≤ p.2 ∧ p.2 < 5)) (hch : ChOk chains)
  (hL : ∀ v,0 ≤ v ∧ v < 5 → LawV steps chains E v)
  (k : Ex G (n + 8) env (VS env.locals nL [some ⟨tLI,script⟩,some ⟨tLI,row⟩,some ⟨tLI,marks⟩,some ⟨tH,ha⟩,some ⟨tH,la⟩,some ⟨tH,ta⟩,none,none,none,none,none,none,none,none] [c0,c1,c2,c3,c4,c5,c6,c7,c8,c9,c10,c11] [some ⟨tLP,steps⟩,some ⟨tLL,chains⟩,some ⟨tLS,E.names⟩,some ⟨tLS,E.paths⟩,some ⟨(tList (tIg G 265)),E.inG⟩,some ⟨(tList (tIg G 265)),E.outG⟩,some ⟨tH,ba⟩,none,none,none,none,none] ++ lRes G mu E ha la ta ba (stK E 5)) ((defBody (topSt 28)).drop 12) Φ) : Ex G (n + 8) env (VS env.locals nL [some ⟨tLI,script⟩,some ⟨tLI,row⟩,some ⟨tLI,marks⟩,some ⟨tH,ha⟩,some ⟨tH,la⟩,some ⟨tH,ta⟩,none,none,none,none,none,none,none,none] [c0,c1,c2,c3,c4,c5,c6,c7,c8,c9,c10,c11] [some ⟨tLP,steps⟩,some ⟨tLL,chains⟩,some ⟨tLS,E.names⟩,some ⟨tLS,E.paths⟩,some ⟨(tList (tIg G 265)),E.inG⟩,some ⟨(tList (tIg G 265)),E.outG⟩,some ⟨tH,ba⟩,none,none,none,none,none] ++ lRes G mu E ha la ta ba ws0) ((defBody (topSt 28)).drop 11) Φ:=by
 have e0 : stK E 0 = ws0:=by
  unfold stK ws0
  rw [updK_zero (by simp),updK_zero (by simp)]
 rw [← e0]
 refine Ex.forK (T:=tInt) (xs:=intRange 0 5) (fun j=>VS env.locals nL [some ⟨tLI,script⟩,some ⟨tLI,row⟩,some ⟨tLI,marks⟩,some ⟨tH,ha⟩,some ⟨tH,la⟩,some ⟨tH,ta⟩,none,none,none,none,none,none,none,none] [c0,c1,c2,c3,c4,c5,c6,c7,c8,c9,c10,c11] [some ⟨tLP,steps⟩,some ⟨tLL,chains⟩,some ⟨tLS,E.names⟩,some ⟨tLS,E.paths⟩,some ⟨(tList (tIg G 265)),E.inG⟩,some ⟨(tList (tIg G 265)),E.outG⟩,some ⟨tH,ba⟩,none,none,none,none,none] ++ lRes G mu E ha la ta ba (stK E j)) (.range (.callT (.glb F (i:=6) rfl (g_range hG)) (.cons .intC .nil) cal_range1) (by walk_at "sc") (by walk_at "sc") (by walk_at "sc") (by walk_at "sc")) (fun k v hj=>⟨_,(As.cel F (i:=7) rfl rfl (lb rfl)),?_⟩) k
 have hx5 : k < 5:=by have:=(List.getElem?_eq_some_iff.mp hj).1; rw [intRange_len] at this; exact this
 have hxk:=range_at2 hj
 subst hxk
 have hu : 0 ≤ (k : Int) ∧ (k : Int) < 5:=by lia
 have hul:=hL (k : Int) hu
 have hsl:=hs.1
 have hnl:=hE.names
 have hpl:=hE.paths
 have hil:=hE.inG
 have hol:=hE.outG
 have hcl:=hch.len
 have hhh:=hE.hh
 have hhl:=hE.hl
 have hchm : ∀ y : Int,0 ≤ y ∧ y < 5 → (chains.getD y.toNat []).length ≤ 5:=fun y hy=>(chain_mem (hch.mem _ (getD_memL (by lia)))).1
 have hcame : (lawCame steps E.names (k : Int)).length ≤ 12:=by
  unfold lawCame
  rw [List.length_map]
  exact Nat.le_trans (List.length_filter_le _ _) hsl
 have g2:=call_len hu 2
 have g3:=call_len hu 3
 have f2:=call_cleanL hu 2
 have f3:=call_cleanL hu 3
 obtain ⟨hmp,hpl50⟩:=path_ok hE hx5
 have hg : E.inG[k]? = some (E.inG.getD k ig0):=getD_get (by lia)
 have hog : E.outG[k]? = some (E.outG.getD k ig0):=getD_get (by lia)
 have hgm:=hE.inm _ (List.mem_of_getElem? hg)
 have hogm:=hE.outm _ (List.mem_of_getElem? hog)
 have i1 : ig1.length = 1:=rfl
 have erep : (List.replicate 5 ig1).getD k [] = ig1:=by
  have : k = 0 ∨ k = 1 ∨ k = 2 ∨ k = 3 ∨ k = 4:=by lia
  rcases this with rfl | rfl | rfl | rfl | rfl <;> rfl
 have hkv : (stK E k).inn[k]? = some ig1:=by
  have:=updK_get (f:=fun x=>(askIn E x).2) (l:=List.replicate 5 ig1) (k:=k) hx5
  rwa [if_neg (by lia),erep] at this
 have hokv : (stK E k).out[k]? = some ig1:=by
  have:=updK_get (f:=fun x=>(askOut E x).2) (l:=List.replicate 5 ig1) (k:=k) hx5
  rwa [if_neg (by lia),erep] at this
 have hil5 : (stK E k).inn.length = 5:=updK_len
 have hol5 : (stK E k).out.length = 5:=updK_len
 have hpq : ∀ i : Nat,((((intRange 0 5).take i).map (qP E))).length ≤ 5:=fun i=>by rw [List.length_map,List.length_take,intRange_len]; exact Nat.min_le_right _ _
 refine Ex.asgSift (T:=(tPair tInt tInt)) (U:=tStr) (fun x1 : Int × Int=>(decide (x1.2 = (k : Int)))) (fun x1 : Int × Int=>(List.getD E.names (Int.toNat x1.1) Str.empty)) F (csc_of (ln:=["u", "w"]) (cn:=[]) (fn:=["names", "v"]) (gn:=[]) (by decide +kernel)) (.consF F (i:=2) rfl rfl (.consF F (i:=7) rfl rfl .nil)) (.list (.var (F.celIn (i:=0) rfl rfl rfl).var)) (by walk_at "sc") (fun e1 a1 B1 x1 h1=>match a1,B1.len with | [],_=>⟨[some ⟨tInt,x1.1⟩,some ⟨tInt,x1.2⟩],[],rfl,(As.pair (As.loc B1.F (i:=0) rfl (lb rfl)) (As.loc B1.F (i:=1) rfl (lb rfl))),(.ofCmp cmp_eqI (.var (B1.F.var (i:=1) rfl rfl)) (.var (B1.S.cel (i:=1) rfl (F.celIn (i:=7) rfl rfl rfl) _).var)),fun hp1=>(.idxD (d:=Str.empty) (Ev.toL (.var (B1.S.cel (i:=0) rfl (F.celIn (i:=2) rfl rfl rfl) _).var)) (.var (B1.F.var (i:=0) rfl rfl)) (by have:=hs.2 x1 h1; lia) (by walk_at "sc"))⟩) (As.loc F (i:=8) rfl (lb rfl)) ?_ (swL F (i:=8) rfl rfl rfl)
 refine Ex.wk (mu₁:=VS env.locals nL [some ⟨tLI,script⟩,some ⟨tLI,row⟩,some ⟨tLI,marks⟩,some ⟨tH,ha⟩,some ⟨tH,la⟩,some ⟨tH,ta⟩,none,none,some ⟨tLS,(lawCame steps E.names (k : Int))⟩,none,none,none,none,none] [c0,c1,c2,c3,c4,c5,c6,c7,c8,c9,c10,c11] [some ⟨tLP,steps⟩,some ⟨tLL,chains⟩,some ⟨tLS,E.names⟩,some ⟨tLS,E.paths⟩,some ⟨(tList (tIg G 265)),E.inG⟩,some ⟨(tList (tIg G 265)),E.outG⟩,some ⟨tH,ba⟩,some ⟨tInt,(k : Int)⟩,none,none,none,none] ++ lRes G mu E ha la ta ba (stK E k)) Wk.refl ?_
 refine Ex.ifF (.boolOp (.orP (.ofCmp (cmp_neL (eqTy_str (d:=0))) (Ev.meth (T:=tH) (x:=ha) (hd_G hG) (hm_get_all hG) (.var (F.var (i:=3) rfl rfl)) (fun _ _ h=>h) rfl (EvA.cons (.callU (.glb F (i:=5) rfl (g_law_call hG)) (.cons (.var (F.celIn (i:=7) rfl rfl rfl).var) (.cons .intC .nil)) (ok_law_call hG) (cal_law_call hG (by walk_at "sc") (by walk_at "sc"))) .nil).toK (CalK.at0 (i:=0) (cod_get_all hG (by walk_at "sc") (by walk_at "sc") (by walk_at "sc")).calK rfl)) (.var (F.var (i:=8) rfl rfl))) (fun hc=>(.orP (.ofCmp cmp_neS (Ev.meth (T:=tH) (x:=ha) (hd_G hG) (hm_get hG) (.var (F.var (i:=3) rfl rfl)) (fun _ _ h=>h) rfl (EvA.cons (.callU (.glb F (i:=5) rfl (g_law_call hG)) (.cons (.var (F.celIn (i:=7) rfl rfl rfl).var) (.cons .intC .nil)) (ok_law_call hG) (cal_law_call hG (by walk_at "sc") (by walk_at "sc"))) (EvA.cons .strC .nil)).toK (CalK.at0 (i:=0) (cod_getS hG (by walk_at "sc") (by walk_at "sc") (by walk_at "sc")).calK rfl)) (.idxD (d:=Str.empty) (Ev.toL (.addL (.var (F.var (i:=8) rfl rfl)) (.listD (T:=tStr) (.cons .strC .nil) (by walk_at "sc")) (by walk_at "sc"))) .intC (by walk_at "sc") (by walk_at "sc"))) (fun hc=>.orNil))))) ?hc1 ?_
 case hc1 =>
  have e1:=decide_eq_true hul.a1
  have e2:=decide_eq_true hul.a2
  rw [e1]
  exact (Bool.or_false _).trans (congrArg (!·) e2)
 refine Ex.ifF (.ofCmp cmp_neS (.callU (.glb F (i:=7) rfl (g_modname hG)) (.cons (.idxD (d:=Str.empty) (Ev.toL (.var (F.celIn (i:=3) rfl rfl rfl).var)) (.var (F.celIn (i:=7) rfl rfl rfl).var) (by walk_at "sc") (by walk_at "sc")) .nil) (ok_modname hG) (cal_modname hG hmp)) (.callU (.glb F (i:=5) rfl (g_law_call hG)) (.cons (.var (F.celIn (i:=7) rfl rfl rfl).var) (.cons .intC .nil)) (ok_law_call hG) (cal_law_call hG (by walk_at "sc") (by walk_at "sc")))) ?hc2 ?_
 case hc2 =>
  rw [Bool.not_eq_false']
  exact decide_eq_true hul.a3
 have e2 : wsI (stK E k) k (askL (E.inG.getD k ig0) ig1 (((intRange 0 5).take 0).map (qP E))).2 = stK E k:=by
  show wsI (stK E k) k ig1 = _
  unfold wsI
  rw [set_sameG hkv]
 have eL2 : askL (E.inG.getD k ig0) ig1 (((intRange 0 5).take (intRange 0 5).length).map (qP E)) = askIn E k:=by rw [List.take_length]; rfl
 refine Ex.ifF (mu₁:=VS env.locals nL [some ⟨tLI,script⟩,some ⟨tLI,row⟩,some ⟨tLI,marks⟩,some ⟨tH,ha⟩,some ⟨tH,la⟩,some ⟨tH,ta⟩,none,none,some ⟨tLS,(lawCame steps E.names (k : Int))⟩,none,none,none,none,none] [c0,c1,c2,c3,c4,c5,c6,c7,c8,c9,c10,c11] [some ⟨tLP,steps⟩,some ⟨tLL,chains⟩,some ⟨tLS,E.names⟩,some ⟨tLS,E.paths⟩,some ⟨(tList (tIg G 265)),E.inG⟩,some ⟨(tList (tIg G 265)),E.outG⟩,some ⟨tH,ba⟩,some ⟨tInt,(k : Int)⟩,none,none,none,none] ++ lRes G mu E ha la ta ba (wsI (stK E k) k (askL (E.inG.getD k ig0) ig1 (((intRange 0 5).take (intRange 0 5).length).map (qP E))).2)) (.ofCmp (cmp_neL (eqTy_int (d:=0))) (Ev.compS (T:=tInt) (U:=tInt) (xs:=intRange 0 5) (fun i=>VS env.locals nL [some ⟨tLI,script⟩,some ⟨tLI,row⟩,some ⟨tLI,marks⟩,some ⟨tH,ha⟩,some ⟨tH,la⟩,some ⟨tH,ta⟩,none,none,some ⟨tLS,(lawCame steps E.names (k : Int))⟩,none,none,none,none,none] [c0,c1,c2,c3,c4,c5,c6,c7,c8,c9,c10,c11] [some ⟨tLP,steps⟩,some ⟨tLL,chains⟩,some ⟨tLS,E.names⟩,some ⟨tLS,E.paths⟩,some ⟨(tList (tIg G 265)),E.inG⟩,some ⟨(tList (tIg G 265)),E.outG⟩,some ⟨tH,ba⟩,some ⟨tInt,(k : Int)⟩,none,none,none,none] ++ lRes G mu E ha la ta ba (wsI (stK E k) k (askL (E.inG.getD k ig0) ig1 (((intRange 0 5).take i).map (qP E))).2)) (fun i=>(askL (E.inG.getD k ig0) ig1 (((intRange 0 5).take i).map (qP E))).1) F (csc_of (ln:=["u"]) (cn:=[]) (fn:=["inner", "names", "paths", "v"]) (gn:=[]) (by decide +kernel)) (.consF F (i:=4) rfl rfl (.consF F (i:=2) rfl rfl (.consF F (i:=3) rfl rfl (.consF F (i:=7) rfl rfl .nil)))) (.range (.callT (.glb F (i:=6) rfl (g_range hG)) (.cons .intC .nil) cal_range1) (by walk_at "sc") (by walk_at "sc") (by walk_at "sc") (by walk_at "sc")) (congrArg (fun s=>VS env.locals nL [some ⟨tLI,script⟩,some ⟨tLI,row⟩,some ⟨tLI,marks⟩,some ⟨tH,ha⟩,some ⟨tH,la⟩,some ⟨tH,ta⟩,none,none,some ⟨tLS,(lawCame steps E.names (k : Int))⟩,none,none,none,none,none] [c0,c1,c2,c3,c4,c5,c6,c7,c8,c9,c10,c11] [some ⟨tLP,steps⟩,some ⟨tLL,chains⟩,some ⟨tLS,E.names⟩,some ⟨tLS,E.paths⟩,some ⟨(tList (tIg G 265)),E.inG⟩,some ⟨(tList (tIg G 265)),E.outG⟩,some ⟨tH,ba⟩,some ⟨tInt,(k : Int)⟩,none,none,none,none] ++ lRes G mu E ha la ta ba s) e2) rfl (fun i hi=>?hz2) (fun e1 a1 B1 i y hp=>match a1,B1.len with | [],_=>⟨[some ⟨tInt,y⟩],[],true,rfl,(As.loc B1.F (i:=0) rfl (lb rfl)),Tests.nil,fun _=>⟨(igNames (E.inG.getD k ig0) (askL (E.inG.getD k ig0) ig1 (((intRange 0 5).take i).map (qP E))).2 (some (E.paths.getD y.toNat Str.empty)) (E.names.getD y.toNat Str.empty)).1,(by
  have hy:=mem_intRange.mp (List.mem_of_getElem? hp)
  have hal:=(askL_len (E.inG.getD k ig0) (((intRange 0 5).take i).map (qP E)) ig1).2
  have hpi:=hpq i
  have hsk : (wsI (stK E k) k (askL (E.inG.getD k ig0) ig1 (((intRange 0 5).take i).map (qP E))).2).inn[k]? = some (askL (E.inG.getD k ig0) ig1 (((intRange 0 5).take i).map (qP E))).2:=List.getElem?_set_self (by lia)
  refine Ev.toMu (Ev.meth (mu₁:=VS e1.locals ["u"] [some ⟨tInt,y⟩] [] [] ++ (VS env.locals nL [some ⟨tLI,script⟩,some ⟨tLI,row⟩,some ⟨tLI,marks⟩,some ⟨tH,ha⟩,some ⟨tH,la⟩,some ⟨tH,ta⟩,none,none,some ⟨tLS,(lawCame steps E.names (k : Int))⟩,none,none,none,none,none] [c0,c1,c2,c3,c4,c5,c6,c7,c8,c9,c10,c11] [some ⟨tLP,steps⟩,some ⟨tLL,chains⟩,some ⟨tLS,E.names⟩,some ⟨tLS,E.paths⟩,some ⟨(tList (tIg G 265)),E.inG⟩,some ⟨(tList (tIg G 265)),E.outG⟩,some ⟨tH,ba⟩,some ⟨tInt,(k : Int)⟩,none,none,none,none] ++ lRes G mu E ha la ta ba (wsI (stK E k) k (askL (E.inG.getD k ig0) ig1 (((intRange 0 5).take i).map (qP E))).2))) (mu₂:=VS e1.locals ["u"] [some ⟨tInt,y⟩] [] [] ++ (VS env.locals nL [some ⟨tLI,script⟩,some ⟨tLI,row⟩,some ⟨tLI,marks⟩,some ⟨tH,ha⟩,some ⟨tH,la⟩,some ⟨tH,ta⟩,none,none,some ⟨tLS,(lawCame steps E.names (k : Int))⟩,none,none,none,none,none] [c0,c1,c2,c3,c4,c5,c6,c7,c8,c9,c10,c11] [some ⟨tLP,steps⟩,some ⟨tLL,chains⟩,some ⟨tLS,E.names⟩,some ⟨tLS,E.paths⟩,some ⟨(tList (tIg G 265)),E.inG⟩,some ⟨(tList (tIg G 265)),E.outG⟩,some ⟨tH,ba⟩,some ⟨tInt,(k : Int)⟩,none,none,none,none] ++ lRes G mu E ha la ta ba (wsI (stK E k) k (askL (E.inG.getD k ig0) ig1 (((intRange 0 5).take i).map (qP E))).2))) (T:=tIg G 265) (x:=E.inG.getD k ig0) (U:=tInt) (ig_G hG) (ig_names hG) (Ev.conv (.idxD (d:=ig0) (Ev.toL (.var (B1.S.cel (i:=0) rfl (F.celIn (i:=4) rfl rfl rfl) _).var)) (.var (B1.S.cel (i:=3) rfl (F.celIn (i:=7) rfl rfl rfl) _).var) (by walk_at "sc") (by walk_at "sc")) rfl) (fun _ _ h=>h) rfl (EvA.cons (.idxD (d:=Str.empty) (Ev.toL (.var (B1.S.cel (i:=2) rfl (F.celIn (i:=3) rfl rfl rfl) _).var)) (.var (B1.F.var (i:=0) rfl rfl)) (by walk_at "sc") (by walk_at "sc")) (EvA.cons (.idxD (d:=Str.empty) (Ev.toL (.var (B1.S.cel (i:=1) rfl (F.celIn (i:=2) rfl rfl rfl) _).var)) (.var (B1.F.var (i:=0) rfl rfl)) (by walk_at "sc") (by walk_at "sc")) .nil)).toK (CalK.at2 (i:=k + 4) (cod_names hG (kvs:=(askL (E.inG.getD k ig0) ig1 (((intRange 0 5).take i).map (qP E))).2) (.str _) ⟨hgm.1,hgm.2,by lia⟩).calK (lRes_inn hg hsk))) ?_
  rw [lRes_setI hg hsk,take_snoc hp,List.map_append,List.map_cons,List.map_nil,askL_snoc]
  show _ ++ (_ ++ lRes G mu E ha la ta ba (wsI (wsI (stK E k) k _) k _)) = _
  unfold wsI
  simp only [List.set_set]
  rfl),(by rw [take_snoc hp,List.map_append,List.map_cons,List.map_nil,askL_snoc]; rfl)⟩,fun h=>nomatch h⟩)) (.map (T:=tInt) (U:=tInt) (fun x1 : Int=>(if (decide ((k : Int) ∈ (List.getD chains (Int.toNat x1) []))) = true then (1 : Int) else (0 : Int))) F (csc_of (ln:=["u"]) (cn:=[]) (fn:=["chains", "v"]) (gn:=[]) (by decide +kernel)) (.consF F (i:=1) rfl rfl (.consF F (i:=7) rfl rfl .nil)) (.range (.callT (.glb F (i:=6) rfl (g_range hG)) (.cons .intC .nil) cal_range1) (by walk_at "sc") (by walk_at "sc") (by walk_at "sc") (by walk_at "sc")) (by walk_at "sc") (fun e1 a1 B1 x1 h1=>match a1,B1.len with | [],_=>⟨[some ⟨tInt,x1⟩],[],rfl,(As.loc B1.F (i:=0) rfl (lb rfl)),(.ite (.inL (eqTy_int (d:=0)) det_int (.var (B1.S.cel (i:=1) rfl (F.celIn (i:=7) rfl rfl rfl) _).var) (Ev.toL (.idxD (d:=[]) (Ev.toL (.var (B1.S.cel (i:=0) rfl (F.celIn (i:=1) rfl rfl rfl) _).var)) (.var (B1.F.var (i:=0) rfl rfl)) (by walk_at "sc") (by walk_at "sc")))) (fun hite=>.intC) (fun hite=>.intC))⟩))) ?c2 ?_
 case hz2 =>
  rw [(askL_len _ _ _).1,sizeLine_nat]; have:=hpq i; lia
 case c2 =>
  rw [Bool.not_eq_false']
  refine decide_eq_true ?_
  rw [List.take_length]
  exact hul.b1
 simp only [eL2]
 have h5 : (igR G E.inG (wsI (stK E k) k (askIn E k).2).inn).length = 5:=by
  rw [igR_len (by show E.inG.length = (List.set _ _ _).length; rw [List.length_set]; lia),hil]
 have hkO : (wsI (stK E k) k (askIn E k).2).out[k]? = some ig1:=hokv
 have e3 : wsO (wsI (stK E k) k (askIn E k).2) k (askL (E.outG.getD k ig0) ig1 (((intRange 0 5).take 0).map (qP E))).2 = wsI (stK E k) k (askIn E k).2:=by
  show wsO (wsI (stK E k) k (askIn E k).2) k ig1 = _
  unfold wsO
  rw [set_sameG hkO]
 have eL3 : askL (E.outG.getD k ig0) ig1 (((intRange 0 5).take (intRange 0 5).length).map (qP E)) = askOut E k:=by rw [List.take_length]; rfl
 refine Ex.ifF (mu₁:=VS env.locals nL [some ⟨tLI,script⟩,some ⟨tLI,row⟩,some ⟨tLI,marks⟩,some ⟨tH,ha⟩,some ⟨tH,la⟩,some ⟨tH,ta⟩,none,none,some ⟨tLS,(lawCame steps E.names (k : Int))⟩,none,none,none,none,none] [c0,c1,c2,c3,c4,c5,c6,c7,c8,c9,c10,c11] [some ⟨tLP,steps⟩,some ⟨tLL,chains⟩,some ⟨tLS,E.names⟩,some ⟨tLS,E.paths⟩,some ⟨(tList (tIg G 265)),E.inG⟩,some ⟨(tList (tIg G 265)),E.outG⟩,some ⟨tH,ba⟩,some ⟨tInt,(k : Int)⟩,none,none,none,none] ++ lRes G mu E ha la ta ba (wsO (wsI (stK E k) k (askIn E k).2) k (askL (E.outG.getD k ig0) ig1 (((intRange 0 5).take (intRange 0 5).length).map (qP E))).2)) (.ofCmp (cmp_neL (eqTy_int (d:=0))) (Ev.compS (T:=tInt) (U:=tInt) (xs:=intRange 0 5) (fun i=>VS env.locals nL [some ⟨tLI,script⟩,some ⟨tLI,row⟩,some ⟨tLI,marks⟩,some ⟨tH,ha⟩,some ⟨tH,la⟩,some ⟨tH,ta⟩,none,none,some ⟨tLS,(lawCame steps E.names (k : Int))⟩,none,none,none,none,none] [c0,c1,c2,c3,c4,c5,c6,c7,c8,c9,c10,c11] [some ⟨tLP,steps⟩,some ⟨tLL,chains⟩,some ⟨tLS,E.names⟩,some ⟨tLS,E.paths⟩,some ⟨(tList (tIg G 265)),E.inG⟩,some ⟨(tList (tIg G 265)),E.outG⟩,some ⟨tH,ba⟩,some ⟨tInt,(k : Int)⟩,none,none,none,none] ++ lRes G mu E ha la ta ba (wsO (wsI (stK E k) k (askIn E k).2) k (askL (E.outG.getD k ig0) ig1 (((intRange 0 5).take i).map (qP E))).2)) (fun i=>(askL (E.outG.getD k ig0) ig1 (((intRange 0 5).take i).map (qP E))).1) F (csc_of (ln:=["u"]) (cn:=[]) (fn:=["names", "outer", "paths", "v"]) (gn:=[]) (by decide +kernel)) (.consF F (i:=2) rfl rfl (.consF F (i:=5) rfl rfl (.consF F (i:=3) rfl rfl (.consF F (i:=7) rfl rfl .nil)))) (.range (.callT (.glb F (i:=6) rfl (g_range hG)) (.cons .intC .nil) cal_range1) (by walk_at "sc") (by walk_at "sc") (by walk_at "sc") (by walk_at "sc")) (congrArg (fun s=>VS env.locals nL [some ⟨tLI,script⟩,some ⟨tLI,row⟩,some ⟨tLI,marks⟩,some ⟨tH,ha⟩,some ⟨tH,la⟩,some ⟨tH,ta⟩,none,none,some ⟨tLS,(lawCame steps E.names (k : Int))⟩,none,none,none,none,none] [c0,c1,c2,c3,c4,c5,c6,c7,c8,c9,c10,c11] [some ⟨tLP,steps⟩,some ⟨tLL,chains⟩,some ⟨tLS,E.names⟩,some ⟨tLS,E.paths⟩,some ⟨(tList (tIg G 265)),E.inG⟩,some ⟨(tList (tIg G 265)),E.outG⟩,some ⟨tH,ba⟩,some ⟨tInt,(k : Int)⟩,none,none,none,none] ++ lRes G mu E ha la ta ba s) e3) rfl (fun i hi=>?hz3) (fun e1 a1 B1 i y hp=>match a1,B1.len with | [],_=>⟨[some ⟨tInt,y⟩],[],true,rfl,(As.loc B1.F (i:=0) rfl (lb rfl)),Tests.nil,fun _=>⟨(igNames (E.outG.getD k ig0) (askL (E.outG.getD k ig0) ig1 (((intRange 0 5).take i).map (qP E))).2 (some (E.paths.getD y.toNat Str.empty)) (E.names.getD y.toNat Str.empty)).1,(by
  have hy:=mem_intRange.mp (List.mem_of_getElem? hp)
  have hal:=(askL_len (E.outG.getD k ig0) (((intRange 0 5).take i).map (qP E)) ig1).2
  have hpi:=hpq i
  have hsk : (wsO (wsI (stK E k) k (askIn E k).2) k (askL (E.outG.getD k ig0) ig1 (((intRange 0 5).take i).map (qP E))).2).out[k]? = some (askL (E.outG.getD k ig0) ig1 (((intRange 0 5).take i).map (qP E))).2:=List.getElem?_set_self (by show k < (stK E k).out.length; lia)
  refine Ev.toMu (Ev.meth (mu₁:=VS e1.locals ["u"] [some ⟨tInt,y⟩] [] [] ++ (VS env.locals nL [some ⟨tLI,script⟩,some ⟨tLI,row⟩,some ⟨tLI,marks⟩,some ⟨tH,ha⟩,some ⟨tH,la⟩,some ⟨tH,ta⟩,none,none,some ⟨tLS,(lawCame steps E.names (k : Int))⟩,none,none,none,none,none] [c0,c1,c2,c3,c4,c5,c6,c7,c8,c9,c10,c11] [some ⟨tLP,steps⟩,some ⟨tLL,chains⟩,some ⟨tLS,E.names⟩,some ⟨tLS,E.paths⟩,some ⟨(tList (tIg G 265)),E.inG⟩,some ⟨(tList (tIg G 265)),E.outG⟩,some ⟨tH,ba⟩,some ⟨tInt,(k : Int)⟩,none,none,none,none] ++ lRes G mu E ha la ta ba (wsO (wsI (stK E k) k (askIn E k).2) k (askL (E.outG.getD k ig0) ig1 (((intRange 0 5).take i).map (qP E))).2))) (mu₂:=VS e1.locals ["u"] [some ⟨tInt,y⟩] [] [] ++ (VS env.locals nL [some ⟨tLI,script⟩,some ⟨tLI,row⟩,some ⟨tLI,marks⟩,some ⟨tH,ha⟩,some ⟨tH,la⟩,some ⟨tH,ta⟩,none,none,some ⟨tLS,(lawCame steps E.names (k : Int))⟩,none,none,none,none,none] [c0,c1,c2,c3,c4,c5,c6,c7,c8,c9,c10,c11] [some ⟨tLP,steps⟩,some ⟨tLL,chains⟩,some ⟨tLS,E.names⟩,some ⟨tLS,E.paths⟩,some ⟨(tList (tIg G 265)),E.inG⟩,some ⟨(tList (tIg G 265)),E.outG⟩,some ⟨tH,ba⟩,some ⟨tInt,(k : Int)⟩,none,none,none,none] ++ lRes G mu E ha la ta ba (wsO (wsI (stK E k) k (askIn E k).2) k (askL (E.outG.getD k ig0) ig1 (((intRange 0 5).take i).map (qP E))).2))) (T:=tIg G 265) (x:=E.outG.getD k ig0) (U:=tInt) (ig_G hG) (ig_names hG) (Ev.conv (.idxD (d:=ig0) (Ev.toL (.var (B1.S.cel (i:=1) rfl (F.celIn (i:=5) rfl rfl rfl) _).var)) (.var (B1.S.cel (i:=3) rfl (F.celIn (i:=7) rfl rfl rfl) _).var) (by walk_at "sc") (by walk_at "sc")) rfl) (fun _ _ h=>h) rfl (EvA.cons (.idxD (d:=Str.empty) (Ev.toL (.var (B1.S.cel (i:=2) rfl (F.celIn (i:=3) rfl rfl rfl) _).var)) (.var (B1.F.var (i:=0) rfl rfl)) (by walk_at "sc") (by walk_at "sc")) (EvA.cons (.idxD (d:=Str.empty) (Ev.toL (.var (B1.S.cel (i:=0) rfl (F.celIn (i:=2) rfl rfl rfl) _).var)) (.var (B1.F.var (i:=0) rfl rfl)) (by walk_at "sc") (by walk_at "sc")) .nil)).toK (CalK.at2 (i:=k + 9) (cod_names hG (kvs:=(askL (E.outG.getD k ig0) ig1 (((intRange 0 5).take i).map (qP E))).2) (.str _) ⟨hogm.1,hogm.2,by lia⟩).calK (lRes_out (st:=wsO (wsI (stK E k) k (askIn E k).2) k (askL (E.outG.getD k ig0) ig1 (((intRange 0 5).take i).map (qP E))).2) h5 hog hsk))) ?_
  rw [lRes_setO (st:=wsO (wsI (stK E k) k (askIn E k).2) k (askL (E.outG.getD k ig0) ig1 (((intRange 0 5).take i).map (qP E))).2) h5 hog hsk,take_snoc hp,List.map_append,List.map_cons,List.map_nil,askL_snoc]
  show _ ++ (_ ++ lRes G mu E ha la ta ba (wsO (wsO (wsI (stK E k) k (askIn E k).2) k _) k _)) = _
  unfold wsO
  simp only [List.set_set]
  rfl),(by rw [take_snoc hp,List.map_append,List.map_cons,List.map_nil,askL_snoc]; rfl)⟩,fun h=>nomatch h⟩)) (.map (T:=tInt) (U:=tInt) (fun x1 : Int=>(if (decide ((k : Int) ∈ (pySlice (List.getD chains (Int.toNat x1) []) none (some (-(1 : Int)))))) = true then (1 : Int) else (0 : Int))) F (csc_of (ln:=["u"]) (cn:=[]) (fn:=["chains", "v"]) (gn:=[]) (by decide +kernel)) (.consF F (i:=1) rfl rfl (.consF F (i:=7) rfl rfl .nil)) (.range (.callT (.glb F (i:=6) rfl (g_range hG)) (.cons .intC .nil) cal_range1) (by walk_at "sc") (by walk_at "sc") (by walk_at "sc") (by walk_at "sc")) (by walk_at "sc") (fun e1 a1 B1 x1 h1=>match a1,B1.len with | [],_=>⟨[some ⟨tInt,x1⟩],[],rfl,(As.loc B1.F (i:=0) rfl (lb rfl)),(.ite (.inL (eqTy_int (d:=0)) det_int (.var (B1.S.cel (i:=1) rfl (F.celIn (i:=7) rfl rfl rfl) _).var) (Ev.toL (.slice (Ev.toL (.idxD (d:=[]) (Ev.toL (.var (B1.S.cel (i:=0) rfl (F.celIn (i:=1) rfl rfl rfl) _).var)) (.var (B1.F.var (i:=0) rfl rfl)) (by walk_at "sc") (by walk_at "sc"))) .none (.some (.neg .intC)) (by have:=hchm x1 (mem_intRange.mp h1); rw [sizeLine_nat]; lia)))) (fun hite=>.intC) (fun hite=>.intC))⟩))) ?c3 ?_
 case hz3 =>
  rw [(askL_len _ _ _).1,sizeLine_nat]; have:=hpq i; lia
 case c3 =>
  rw [Bool.not_eq_false']
  refine decide_eq_true ?_
  rw [List.take_length]
  exact hul.b2
 simp only [eL3]
 have e : wsO (wsI (stK E k) k (askIn E k).2) k (askOut E k).2 = stK E (k + 1):=by
  unfold wsO wsI
  have i1 : (stK E k).inn.set k (askIn E k).2 = updK (fun x=>(askIn E x).2) (List.replicate 5 ig1) (k + 1):=updK_set (f:=fun x=>(askIn E x).2) hx5 rfl
  have i2 : (stK E k).out.set k (askOut E k).2 = updK (fun x=>(askOut E x).2) (List.replicate 5 ig1) (k + 1):=updK_set (f:=fun x=>(askOut E x).2) hx5 rfl
  simp only [i1,i2]
  rfl
 rw [e]
 exact Ex.endTo (Wk.forgetA (by walk_at "forget") (by walk_at "forget"))
theorem lyAt_grow (E : LEnv) (k : Int) (st : LS) (s : Int) : (lyAt E k st s).live.length ≤ st.live.length + 1:=by
 unfold lyAt
 split
 ·show (st.live ++ [_]).length ≤ _; rw [List.length_append]; exact Nat.le_refl _
 ·exact Nat.le_succ _
theorem lyTurn_grow (E : LEnv) (st : LS) {k : Int} (hk : 0 ≤ k) : (lyTurn E st k).live.length ≤ st.live.length + 1:=by
 unfold lyTurn
 rw [pySlice_one _ k hk]
 match st.spots.drop k.toNat with
 | []=>exact Nat.le_succ _
 | s :: l=>exact lyAt_grow E k st s
theorem lyAll_grow (E : LEnv) (st : LS) : (lyAll E st).live.length ≤ st.live.length + 5:=by
 have e : intRange 0 5 = [0,1,2,3,4]:=by decide
 unfold lyAll
 rw [e]
 simp only [List.foldl_cons,List.foldl_nil]
 have a:=lyTurn_grow E st (k:=0) (by decide)
 have b:=lyTurn_grow E (lyTurn E st 0) (k:=1) (by decide)
 have c:=lyTurn_grow E (lyTurn E (lyTurn E st 0) 1) (k:=2) (by decide)
 have d:=lyTurn_grow E (lyTurn E (lyTurn E (lyTurn E st 0) 1) 2) (k:=3) (by decide)
 have f:=lyTurn_grow E (lyTurn E (lyTurn E (lyTurn E (lyTurn E st 0) 1) 2) 3) (k:=4) (by decide)
 lia
noncomputable def wE (E : WE) (w : Int × Int × Int) : LEnv:=⟨E.heads,E.names,w.1,w.2.1⟩
theorem wE_fit {E : WE} (hE : WFit E) {w : Int × Int × Int} (h1 : 0 ≤ w.1 ∧ w.1 < 5) (h2 : 0 ≤ w.2.1 ∧ w.2.1 < 5) : LFit (wE E w):=⟨hE.hh,hE.hl,hE.names,fun s hs=>⟨by have:=(hE.nm s hs).len; lia,(hE.nm s hs).clean⟩,hE.src,h1,h2⟩
noncomputable def lawWishes (row : List Int) : List (Int × Int × Int):=(List.map (fun x1 : Int=>(((x1 / (20 : Int)) % (4 : Int)),((1 : Int) + ((x1 / (80 : Int)) % (4 : Int))),((x1 / (320 : Int)) % (2 : Int)))) row)
noncomputable def wLast (names : List Str) (T : Int × Int × Int → Int) (last : List (Str × Str)) (w : Int × Int × Int) : List (Str × Str):=if (((decide ((T w) = (1 : Int))) && ((decide (w.2.2 = (1 : Int))) && ((!decide ((List.getD names (Int.toNat w.1) Str.empty) ∈ (getAll last (lawCall w.2.1 (12 : Int))))) && true)))) = true then last ++ [(lawCall w.2.1 w.1,names.getD w.1.toNat Str.empty)] else last
noncomputable def wLive (E : WE) (T : Int × Int × Int → Int) (live : List (Str × Str)) (w : Int × Int × Int) : List (Str × Str):=if (((decide ((T w) = (1 : Int))) && ((!decide (w.1 = w.2.1)) && true))) = true then (lyAll (wE E w) ⟨[w.2.1],live⟩).live else live
noncomputable def stW (E : WE) (T : Int × Int × Int → Int) (ws : List (Int × Int × Int)) : WS:=⟨ws.foldl (wLive E T) [],ws.foldl (wLast E.names T) [],[],(stK E 5).inn,(stK E 5).out⟩
theorem wishes_ok {row : List Int} : (lawWishes row).length = row.length ∧ ∀ w ∈ lawWishes row,(0 ≤ w.1 ∧ w.1 < 4) ∧ (1 ≤ w.2.1 ∧ w.2.1 < 5) ∧ (w.2.2 = 0 ∨ w.2.2 = 1):=by
 refine ⟨by unfold lawWishes; rw [List.length_map],fun w hw=>?_⟩
 obtain ⟨n,_,rfl⟩:=List.mem_map.mp hw
 show (0 ≤ n / 20 % 4 ∧ n / 20 % 4 < 4) ∧ (1 ≤ 1 + n / 80 % 4 ∧ 1 + n / 80 % 4 < 5) ∧ (n / 320 % 2 = 0 ∨ n / 320 % 2 = 1)
 lia
noncomputable def RowOk (E : WE) (rows : List (Str × Str)) : Prop:=∀ kv ∈ rows,kv.1.length ≤ 500 ∧ kv.2 ∈ E.names
theorem RowOk.fit {E : WE} (hE : WFit E) {rows : List (Str × Str)} (h : RowOk E rows) (hl : rows.length ≤ 300) : HdFit rows:=⟨by lia,fun kv hk=>⟨by have:=(h kv hk).1; lia,by have:=(hE.nm _ (h kv hk).2).len; lia⟩⟩
theorem wLast_inv {E : WE} (hE : WFit E) {T : Int × Int × Int → Int} {last : List (Str × Str)} {w : Int × Int × Int} (h1 : 0 ≤ w.1 ∧ w.1 < 5) (h2 : 0 ≤ w.2.1 ∧ w.2.1 < 5) {m : Nat} (h : last.length ≤ m ∧ RowOk E last) : (wLast E.names T last w).length ≤ m + 1 ∧ RowOk E (wLast E.names T last w):=by
 unfold wLast
 split
 ·refine ⟨by rw [List.length_append]; exact Nat.add_le_add h.1 (Nat.le_refl _),fun kv hkv=>?_⟩
  rcases List.mem_append.mp hkv with hkv | hkv
  ·exact h.2 kv hkv
  ·rw [List.mem_singleton.mp hkv]
   have:=hE.names
   exact ⟨by have:=call_len h2 w.1; show (lawCall _ _).length ≤ _; lia,getD_memL (by lia)⟩
 ·exact ⟨Nat.le_succ_of_le h.1,h.2⟩
theorem ly0 {E : WE} {w : Int × Int × Int} (h2 : 0 ≤ w.2.1 ∧ w.2.1 < 5) {live : List (Str × Str)} (h : live.length ≤ 300 ∧ RowOk E live) : LInv (wE E w) 0 ⟨[w.2.1],live⟩:=⟨⟨Nat.le_refl _,fun u hu=>by rw [List.mem_singleton.mp hu]; exact h2⟩,⟨h.1,h.2⟩⟩
theorem wLive_inv {E : WE} (hE : WFit E) {T : Int × Int × Int → Int} {live : List (Str × Str)} {w : Int × Int × Int} (h1 : 0 ≤ w.1 ∧ w.1 < 5) (h2 : 0 ≤ w.2.1 ∧ w.2.1 < 5) {m : Nat} (hm : m ≤ 300) (h : live.length ≤ m ∧ RowOk E live) : (wLive E T live w).length ≤ m + 5 ∧ RowOk E (wLive E T live w):=by
 unfold wLive
 split
 ·have a:=lyAll_grow (wE E w) ⟨[w.2.1],live⟩
  have b:=lyTurns_inv (wE_fit hE h1 h2) (intRange 0 5) (ly0 (w:=w) h2 ⟨Nat.le_trans h.1 hm,h.2⟩) (fun y hy=>(mem_intRange.mp hy).1)
  exact ⟨Nat.le_trans a (Nat.add_le_add_right h.1 5),b.live.2⟩
 ·exact ⟨Nat.le_trans h.1 (Nat.le_add_right _ _),h.2⟩
theorem stW_inv {E : WE} (hE : WFit E) {T : Int × Int × Int → Int} : ∀ (ws : List (Int × Int × Int)) {m : Nat} {live last : List (Str × Str)},(∀ w ∈ ws,(0 ≤ w.1 ∧ w.1 < 4) ∧ (1 ≤ w.2.1 ∧ w.2.1 < 5) ∧ (w.2.2 = 0 ∨ w.2.2 = 1)) → m + 5 * ws.length ≤ 200 → (live.length ≤ m ∧ RowOk E live) → (last.length ≤ m ∧ RowOk E last) → ((ws.foldl (wLive E T) live).length ≤ m + 5 * ws.length ∧ RowOk E (ws.foldl (wLive E T) live)) ∧ ((ws.foldl (wLast E.names T) last).length ≤ m + 5 * ws.length ∧ RowOk E (ws.foldl (wLast E.names T) last))
 | [],m,live,last,_,_,h1,h2=>⟨h1,h2⟩
 | w :: ws,m,live,last,hw,hm,h1,h2=>by
  have hw0:=hw w List.mem_cons_self
  rw [List.length_cons] at hm ⊢
  have a:=wLive_inv hE (T:=T) (w:=w) (by lia) (by lia) (m:=m) (by lia) h1
  have b:=wLast_inv hE (T:=T) (w:=w) (by lia) (by lia) h2
  have c:=stW_inv hE (T:=T) ws (m:=m + 5) (fun w hw'=>hw w (List.mem_cons_of_mem _ hw')) (by lia) a ⟨by lia,b.2⟩
  rw [show m + 5 + 5 * ws.length = m + 5 * (ws.length + 1) by lia] at c
  exact c
structure LawKept (E : WE) (T : Int × Int × Int → Int) : Prop where
 kin : ∀ w : Int × Int × Int,(0 ≤ w.1 ∧ w.1 < 5) → (0 ≤ w.2.1 ∧ w.2.1 < 5) → w.2.2 = 1 → igNames (E.inG.getD w.1.toNat ig0) (askIn E w.1.toNat).2 none (E.names.getD w.2.1.toNat Str.empty) = (T w,(askIn E w.1.toNat).2)
 kout : ∀ w : Int × Int × Int,(0 ≤ w.1 ∧ w.1 < 5) → (0 ≤ w.2.1 ∧ w.2.1 < 5) → w.2.2 ≠ 1 → igNames (E.outG.getD w.1.toNat ig0) (askOut E w.1.toNat).2 (some ("/" : Str)) (E.names.getD w.2.1.toNat Str.empty) = (T w,(askOut E w.1.toNat).2)
theorem ask_fit (E : WE) (hE : WFit E) {m : Nat} (h : m < 5) : E.inG[m]? = some (E.inG.getD m ig0) ∧ E.outG[m]? = some (E.outG.getD m ig0) ∧ IgFit (E.inG.getD m ig0) (askIn E m).2 ∧ IgFit (E.outG.getD m ig0) (askOut E m).2:=by
 have h1 : E.inG[m]? = some (E.inG.getD m ig0):=getD_get (by have:=hE.inG; lia)
 have h2 : E.outG[m]? = some (E.outG.getD m ig0):=getD_get (by have:=hE.outG; lia)
 have l : ∀ g : Ig,(askL g ig1 ((intRange 0 5).map (qP E))).2.length ≤ 6:=fun g=>by
  have:=(askL_len g ((intRange 0 5).map (qP E)) ig1).2
  rw [List.length_map,intRange_len] at this
  exact this
 have q1:=hE.inm _ (List.mem_of_getElem? h1)
 have q2:=hE.outm _ (List.mem_of_getElem? h2)
 exact ⟨h1,h2,⟨q1.1,q1.2,Nat.le_trans (l _) (by decide)⟩,⟨q2.1,q2.2,Nat.le_trans (l _) (by decide)⟩⟩
set_option maxHeartbeats 2000000 in
theorem law_D (hG : TopOk G) {c0 c1 c2 c3 c4 c5 c6 c7 c8 c9 c10 c11 ha la ta ba : Addr} {script row marks : List Int} {steps : List (Int × Int)} {chains : List (List Int)} {E : WE} {T : Int × Int × Int → Int} {Φ : Flow → KH → List Res → Prop} (F : FEnv env nL nC [c0,c1,c2,c3,c4,c5,c6,c7,c8,c9,c10,c11] nG) (hE : WFit E) (hr : row.length ≤ 11) (hK : LawKept E T)
  (k : Ex G (n + 8) env (VS env.locals nL [some ⟨tLI,script⟩,some ⟨tLI,row⟩,some ⟨tLI,marks⟩,some ⟨tH,ha⟩,some ⟨tH,la⟩,some ⟨tH,ta⟩,none,none,none,none,none,none,none,none] [c0,c1,c2,c3,c4,c5,c6,c7,c8,c9,c10,c11] [some ⟨tLP,steps⟩,some ⟨tLL,chains⟩,some ⟨tLS,E.names⟩,some ⟨tLS,E.paths⟩,some ⟨(tList (tIg G 265)),E.inG⟩,some ⟨(tList (tIg G 265)),E.outG⟩,some ⟨tH,ba⟩,none,some ⟨(tList (tTrip tInt tInt tInt)),(lawWishes row)⟩,none,none,none] ++ lRes G mu E ha la ta ba (stW E T (lawWishes row))) ((defBody (topSt 28)).drop 14) Φ) : Ex G (n + 8) env (VS env.locals nL [some ⟨tLI,script⟩,some ⟨tLI,row⟩,some ⟨tLI,marks⟩,some ⟨tH,ha⟩,some ⟨tH,la⟩,some ⟨tH,ta⟩,none,none,none,none,none,none,none,none] [c0,c1,c2,c3,c4,c5,c6,c7,c8,c9,c10,c11] [some ⟨tLP,steps⟩,some ⟨tLL,chains⟩,some ⟨tLS,E.names⟩,some ⟨tLS,E.paths⟩,some ⟨(tList (tIg G 265)),E.inG⟩,some ⟨(tList (tIg G 265)),E.outG⟩,some ⟨tH,ba⟩,none,none,none,none,none] ++ lRes G mu E ha la ta ba (stK E 5)) ((defBody (topSt 28)).drop 12) Φ:=by
 refine Ex.asg (T:=(tList (tTrip tInt tInt tInt))) (x:=lawWishes row) (.map (T:=tInt) (U:=(tTrip tInt tInt tInt)) (fun x1 : Int=>(((x1 / (20 : Int)) % (4 : Int)),((1 : Int) + ((x1 / (80 : Int)) % (4 : Int))),((x1 / (320 : Int)) % (2 : Int)))) F (csc_of (ln:=["n"]) (cn:=[]) (fn:=[]) (gn:=[]) (by decide +kernel)) .nil (.list (.var (F.var (i:=1) rfl rfl))) (by walk_at "sc") (fun e1 a1 B1 x1 h1=>match a1,B1.len with | [],_=>⟨[some ⟨tInt,x1⟩],[],rfl,(As.loc B1.F (i:=0) rfl (lb rfl)),(.trip (.fmod (.fdiv (.var (B1.F.var (i:=0) rfl rfl)) .intC (by walk_at "sc") (by walk_at "sc")) .intC (by walk_at "sc")) (.add .intC (.fmod (.fdiv (.var (B1.F.var (i:=0) rfl rfl)) .intC (by walk_at "sc") (by walk_at "sc")) .intC (by walk_at "sc"))) (.fmod (.fdiv (.var (B1.F.var (i:=0) rfl rfl)) .intC (by walk_at "sc") (by walk_at "sc")) .intC (by walk_at "sc")))⟩)) (As.cel F (i:=8) rfl rfl (lb rfl)) ?_ rfl (swC F (i:=8) rfl) rfl
 obtain ⟨hwl,hw⟩:=wishes_ok (row:=row)
 refine Ex.forK (T:=tTrip tInt tInt tInt) (xs:=lawWishes row) (fun j=>VS env.locals nL [some ⟨tLI,script⟩,some ⟨tLI,row⟩,some ⟨tLI,marks⟩,some ⟨tH,ha⟩,some ⟨tH,la⟩,some ⟨tH,ta⟩,none,none,none,none,none,none,none,none] [c0,c1,c2,c3,c4,c5,c6,c7,c8,c9,c10,c11] [some ⟨tLP,steps⟩,some ⟨tLL,chains⟩,some ⟨tLS,E.names⟩,some ⟨tLS,E.paths⟩,some ⟨(tList (tIg G 265)),E.inG⟩,some ⟨(tList (tIg G 265)),E.outG⟩,some ⟨tH,ba⟩,none,some ⟨(tList (tTrip tInt tInt tInt)),(lawWishes row)⟩,none,none,none] ++ lRes G mu E ha la ta ba (stW E T ((lawWishes row).take j))) (.list (.var (F.celIn (i:=8) rfl rfl rfl).var)) (fun i w hi=>⟨_,.trip (As.loc F (i:=9) rfl (lb rfl)) (As.loc F (i:=10) rfl (lb rfl)) (As.loc F (i:=11) rfl (lb rfl)),?_⟩) ?_
 ·have hwi:=hw w (List.mem_of_getElem? hi)
  have hil:=(List.getElem?_eq_some_iff.mp hi).1
  have hI:=stW_inv hE (T:=T) ((lawWishes row).take i) (m:=0) (live:=[]) (last:=[]) (fun w hw'=>hw w (List.mem_of_mem_take hw')) (by rw [List.length_take]; lia) ⟨Nat.le_refl _,fun kv h=>nomatch h⟩ ⟨Nat.le_refl _,fun kv h=>nomatch h⟩
  have e1 : stW E T ((lawWishes row).take (i + 1)) = ⟨wLive E T (((lawWishes row).take i).foldl (wLive E T) []) w,wLast E.names T (((lawWishes row).take i).foldl (wLast E.names T) []) w,[],(stK E 5).inn,(stK E 5).out⟩:=by unfold stW; rw [take_snoc hi,List.foldl_append,List.foldl_append]; rfl
  have e0 : stW E T ((lawWishes row).take i) = ⟨((lawWishes row).take i).foldl (wLive E T) [],((lawWishes row).take i).foldl (wLast E.names T) [],[],(stK E 5).inn,(stK E 5).out⟩:=rfl
  rw [e1,e0]
  have htl : ((lawWishes row).take i).length ≤ 11:=by rw [List.length_take]; lia
  generalize ((lawWishes row).take i).foldl (wLive E T) [] = lv at hI ⊢
  generalize ((lawWishes row).take i).foldl (wLast E.names T) [] = lt at hI ⊢
  obtain ⟨⟨hI1,hI2⟩,hI3,hI4⟩:=hI
  have hw1 : 0 ≤ w.1 ∧ w.1 < 5:=by lia
  have hw2 : 0 ≤ w.2.1 ∧ w.2.1 < 5:=by lia
  have hnl:=hE.names
  have hil:=hE.inG
  have hol:=hE.outG
  obtain ⟨ag1,ag2,ag3,ag4⟩:=ask_fit E hE (m:=w.1.toNat) (by lia)
  have hnm1:=hE.nm _ (getD_memL (l:=E.names) (i:=w.1.toNat) (d:=Str.empty) (by lia))
  have hnm2:=hE.nm _ (getD_memL (l:=E.names) (i:=w.2.1.toNat) (d:=Str.empty) (by lia))
  have hnl1:=hnm1.len
  have hnl2:=hnm2.len
  have hO1 : ("/" : Str).length = 1:=by decide +kernel
  have hfL : HdFit lt:=hI4.fit hE (by lia)
  have c12:=call_len hw2 12
  have l12:=call_cleanL hw2 12
  have hsk : (⟨lv,lt,[],(stK E 5).inn,(stK E 5).out⟩ : WS).inn[w.1.toNat]? = some (askIn E w.1.toNat).2:=by
   have:=updK_get (f:=fun x=>(askIn E x).2) (l:=List.replicate 5 ig1) (k:=5) (i:=w.1.toNat) (by lia)
   rwa [if_pos (by lia)] at this
  have hok : (⟨lv,lt,[],(stK E 5).inn,(stK E 5).out⟩ : WS).out[w.1.toNat]? = some (askOut E w.1.toNat).2:=by
   have:=updK_get (f:=fun x=>(askOut E x).2) (l:=List.replicate 5 ig1) (k:=5) (i:=w.1.toNat) (by lia)
   rwa [if_pos (by lia)] at this
  have h5 : (igR G E.inG (⟨lv,lt,[],(stK E 5).inn,(stK E 5).out⟩ : WS).inn).length = 5:=by rw [igR_len (by show _ = (updK _ _ _).length; rw [updK_len]; lia),hil]
  refine Ex.asg (T:=tInt) (x:=T w) (Cond.ifExp (mu₁:=VS env.locals nL [some ⟨tLI,script⟩,some ⟨tLI,row⟩,some ⟨tLI,marks⟩,some ⟨tH,ha⟩,some ⟨tH,la⟩,some ⟨tH,ta⟩,none,none,none,some ⟨tInt,w.1⟩,some ⟨tInt,w.2.1⟩,some ⟨tInt,w.2.2⟩,none,none] [c0,c1,c2,c3,c4,c5,c6,c7,c8,c9,c10,c11] [some ⟨tLP,steps⟩,some ⟨tLL,chains⟩,some ⟨tLS,E.names⟩,some ⟨tLS,E.paths⟩,some ⟨(tList (tIg G 265)),E.inG⟩,some ⟨(tList (tIg G 265)),E.outG⟩,some ⟨tH,ba⟩,none,some ⟨(tList (tTrip tInt tInt tInt)),(lawWishes row)⟩,none,none,none] ++ lRes G mu E ha la ta ba (⟨lv,lt,[],(stK E 5).inn,(stK E 5).out⟩ : WS)) (mu₂:=VS env.locals nL [some ⟨tLI,script⟩,some ⟨tLI,row⟩,some ⟨tLI,marks⟩,some ⟨tH,ha⟩,some ⟨tH,la⟩,some ⟨tH,ta⟩,none,none,none,some ⟨tInt,w.1⟩,some ⟨tInt,w.2.1⟩,some ⟨tInt,w.2.2⟩,none,none] [c0,c1,c2,c3,c4,c5,c6,c7,c8,c9,c10,c11] [some ⟨tLP,steps⟩,some ⟨tLL,chains⟩,some ⟨tLS,E.names⟩,some ⟨tLS,E.paths⟩,some ⟨(tList (tIg G 265)),E.inG⟩,some ⟨(tList (tIg G 265)),E.outG⟩,some ⟨tH,ba⟩,none,some ⟨(tList (tTrip tInt tInt tInt)),(lawWishes row)⟩,none,none,none] ++ lRes G mu E ha la ta ba (⟨lv,lt,[],(stK E 5).inn,(stK E 5).out⟩ : WS)) (.ofCmp cmp_eqI (.var (F.var (i:=11) rfl rfl)) .intC) (fun hc=>?hin) (fun hc=>?hout)) (As.loc F (i:=12) rfl (lb rfl)) ?_
  case hin =>
   have hk:=hK.kin w hw1 hw2 (of_decide_eq_true hc)
   have hcal:=(cod_names (n:=n + 6) hG (g:=E.inG.getD w.1.toNat ig0) (kvs:=(askIn E w.1.toNat).2) (m:=E.names.getD w.2.1.toNat Str.empty) .none ag3).calK
   rw [hk] at hcal
   exact Ev.meth (mu₁:=VS env.locals nL [some ⟨tLI,script⟩,some ⟨tLI,row⟩,some ⟨tLI,marks⟩,some ⟨tH,ha⟩,some ⟨tH,la⟩,some ⟨tH,ta⟩,none,none,none,some ⟨tInt,w.1⟩,some ⟨tInt,w.2.1⟩,some ⟨tInt,w.2.2⟩,none,none] [c0,c1,c2,c3,c4,c5,c6,c7,c8,c9,c10,c11] [some ⟨tLP,steps⟩,some ⟨tLL,chains⟩,some ⟨tLS,E.names⟩,some ⟨tLS,E.paths⟩,some ⟨(tList (tIg G 265)),E.inG⟩,some ⟨(tList (tIg G 265)),E.outG⟩,some ⟨tH,ba⟩,none,some ⟨(tList (tTrip tInt tInt tInt)),(lawWishes row)⟩,none,none,none] ++ lRes G mu E ha la ta ba (⟨lv,lt,[],(stK E 5).inn,(stK E 5).out⟩ : WS)) (mu₂:=VS env.locals nL [some ⟨tLI,script⟩,some ⟨tLI,row⟩,some ⟨tLI,marks⟩,some ⟨tH,ha⟩,some ⟨tH,la⟩,some ⟨tH,ta⟩,none,none,none,some ⟨tInt,w.1⟩,some ⟨tInt,w.2.1⟩,some ⟨tInt,w.2.2⟩,none,none] [c0,c1,c2,c3,c4,c5,c6,c7,c8,c9,c10,c11] [some ⟨tLP,steps⟩,some ⟨tLL,chains⟩,some ⟨tLS,E.names⟩,some ⟨tLS,E.paths⟩,some ⟨(tList (tIg G 265)),E.inG⟩,some ⟨(tList (tIg G 265)),E.outG⟩,some ⟨tH,ba⟩,none,some ⟨(tList (tTrip tInt tInt tInt)),(lawWishes row)⟩,none,none,none] ++ lRes G mu E ha la ta ba (⟨lv,lt,[],(stK E 5).inn,(stK E 5).out⟩ : WS)) (T:=tIg G 265) (x:=E.inG.getD w.1.toNat ig0) (U:=tInt) (ig_G hG) (ig_names hG) (.idxD (d:=ig0) (Ev.toL (.var (F.celIn (i:=4) rfl rfl rfl).var)) (.var (F.var (i:=9) rfl rfl)) (by walk_at "sc") (by walk_at "sc")) (fun _ _ h=>h) rfl (EvA.cons .noneC (EvA.cons (.idxD (d:=Str.empty) (Ev.toL (.var (F.celIn (i:=2) rfl rfl rfl).var)) (.var (F.var (i:=10) rfl rfl)) (by walk_at "sc") (by walk_at "sc")) .nil)).toK (CalK.at0 (i:=w.1.toNat + 4) hcal (lRes_inn ag1 hsk))
  case hout =>
   have hk:=hK.kout w hw1 hw2 (of_decide_eq_false hc)
   have hcal:=(cod_names (n:=n + 6) hG (g:=E.outG.getD w.1.toNat ig0) (kvs:=(askOut E w.1.toNat).2) (m:=E.names.getD w.2.1.toNat Str.empty) (.str ("/" : Str)) ag4).calK
   rw [hk] at hcal
   exact Ev.meth (mu₁:=VS env.locals nL [some ⟨tLI,script⟩,some ⟨tLI,row⟩,some ⟨tLI,marks⟩,some ⟨tH,ha⟩,some ⟨tH,la⟩,some ⟨tH,ta⟩,none,none,none,some ⟨tInt,w.1⟩,some ⟨tInt,w.2.1⟩,some ⟨tInt,w.2.2⟩,none,none] [c0,c1,c2,c3,c4,c5,c6,c7,c8,c9,c10,c11] [some ⟨tLP,steps⟩,some ⟨tLL,chains⟩,some ⟨tLS,E.names⟩,some ⟨tLS,E.paths⟩,some ⟨(tList (tIg G 265)),E.inG⟩,some ⟨(tList (tIg G 265)),E.outG⟩,some ⟨tH,ba⟩,none,some ⟨(tList (tTrip tInt tInt tInt)),(lawWishes row)⟩,none,none,none] ++ lRes G mu E ha la ta ba (⟨lv,lt,[],(stK E 5).inn,(stK E 5).out⟩ : WS)) (mu₂:=VS env.locals nL [some ⟨tLI,script⟩,some ⟨tLI,row⟩,some ⟨tLI,marks⟩,some ⟨tH,ha⟩,some ⟨tH,la⟩,some ⟨tH,ta⟩,none,none,none,some ⟨tInt,w.1⟩,some ⟨tInt,w.2.1⟩,some ⟨tInt,w.2.2⟩,none,none] [c0,c1,c2,c3,c4,c5,c6,c7,c8,c9,c10,c11] [some ⟨tLP,steps⟩,some ⟨tLL,chains⟩,some ⟨tLS,E.names⟩,some ⟨tLS,E.paths⟩,some ⟨(tList (tIg G 265)),E.inG⟩,some ⟨(tList (tIg G 265)),E.outG⟩,some ⟨tH,ba⟩,none,some ⟨(tList (tTrip tInt tInt tInt)),(lawWishes row)⟩,none,none,none] ++ lRes G mu E ha la ta ba (⟨lv,lt,[],(stK E 5).inn,(stK E 5).out⟩ : WS)) (T:=tIg G 265) (x:=E.outG.getD w.1.toNat ig0) (U:=tInt) (ig_G hG) (ig_names hG) (.idxD (d:=ig0) (Ev.toL (.var (F.celIn (i:=5) rfl rfl rfl).var)) (.var (F.var (i:=9) rfl rfl)) (by walk_at "sc") (by walk_at "sc")) (fun _ _ h=>h) rfl (EvA.cons .strC (EvA.cons (.idxD (d:=Str.empty) (Ev.toL (.var (F.celIn (i:=2) rfl rfl rfl).var)) (.var (F.var (i:=10) rfl rfl)) (by walk_at "sc") (by walk_at "sc")) .nil)).toK (CalK.at0 (i:=w.1.toNat + 9) hcal (lRes_out h5 ag2 hok))
  refine Ex.ifN (b:=((decide ((T w) = (1 : Int))) && ((decide (w.2.2 = (1 : Int))) && ((!decide ((List.getD E.names (Int.toNat w.1) Str.empty) ∈ (getAll lt (lawCall w.2.1 (12 : Int))))) && true)))) (mu₁:=VS env.locals nL [some ⟨tLI,script⟩,some ⟨tLI,row⟩,some ⟨tLI,marks⟩,some ⟨tH,ha⟩,some ⟨tH,la⟩,some ⟨tH,ta⟩,none,none,none,some ⟨tInt,w.1⟩,some ⟨tInt,w.2.1⟩,some ⟨tInt,w.2.2⟩,some ⟨tInt,(T w)⟩,none] [c0,c1,c2,c3,c4,c5,c6,c7,c8,c9,c10,c11] [some ⟨tLP,steps⟩,some ⟨tLL,chains⟩,some ⟨tLS,E.names⟩,some ⟨tLS,E.paths⟩,some ⟨(tList (tIg G 265)),E.inG⟩,some ⟨(tList (tIg G 265)),E.outG⟩,some ⟨tH,ba⟩,none,some ⟨(tList (tTrip tInt tInt tInt)),(lawWishes row)⟩,none,none,none] ++ lRes G mu E ha la ta ba (⟨lv,lt,[],(stK E 5).inn,(stK E 5).out⟩ : WS)) (mu₂:=VS env.locals nL [some ⟨tLI,script⟩,some ⟨tLI,row⟩,some ⟨tLI,marks⟩,some ⟨tH,ha⟩,some ⟨tH,la⟩,some ⟨tH,ta⟩,none,none,none,some ⟨tInt,w.1⟩,some ⟨tInt,w.2.1⟩,some ⟨tInt,w.2.2⟩,some ⟨tInt,(T w)⟩,none] [c0,c1,c2,c3,c4,c5,c6,c7,c8,c9,c10,c11] [some ⟨tLP,steps⟩,some ⟨tLL,chains⟩,some ⟨tLS,E.names⟩,some ⟨tLS,E.paths⟩,some ⟨(tList (tIg G 265)),E.inG⟩,some ⟨(tList (tIg G 265)),E.outG⟩,some ⟨tH,ba⟩,none,some ⟨(tList (tTrip tInt tInt tInt)),(lawWishes row)⟩,none,none,none] ++ lRes G mu E ha la ta ba (⟨lv,wLast E.names T lt w,[],(stK E 5).inn,(stK E 5).out⟩ : WS)) (.boolOp (.andP (.ofCmp cmp_eqI (.var (F.var (i:=12) rfl rfl)) .intC) (fun hc=>(.andP (.ofCmp cmp_eqI (.var (F.var (i:=11) rfl rfl)) .intC) (fun hc=>(.andP (.notInL (eqTy_str (d:=0)) det_str (.idxD (d:=Str.empty) (Ev.toL (.var (F.celIn (i:=2) rfl rfl rfl).var)) (.var (F.var (i:=9) rfl rfl)) (by walk_at "sc") (by walk_at "sc")) (Ev.toL (Ev.meth (T:=tH) (x:=ta) (hd_G hG) (hm_get_all hG) (.var (F.var (i:=5) rfl rfl)) (fun _ _ h=>h) rfl (EvA.cons (.callU (.glb F (i:=5) rfl (g_law_call hG)) (.cons (.var (F.var (i:=10) rfl rfl)) (.cons .intC .nil)) (ok_law_call hG) (cal_law_call hG (by walk_at "sc") (by walk_at "sc"))) .nil).toK (CalK.at0 (i:=2) (cod_get_all hG (by walk_at "sc") (by walk_at "sc") (by walk_at "sc")).calK rfl)))) (fun hc=>.andNil))))))) (fun hb=>?ht) (fun hb=>?hf) ?_
  case hf =>
   have e : wLast E.names T lt w = lt:=if_neg (by rw [hb]; decide)
   rw [e]; exact Wk.refl
  case ht =>
   have e : wLast E.names T lt w = lt ++ [(lawCall w.2.1 w.1,E.names.getD w.1.toNat Str.empty)]:=if_pos hb
   rw [e]
   exact Ex.eff F (Ev.toMu (Ev.meth (mu₁:=VS env.locals nL [some ⟨tLI,script⟩,some ⟨tLI,row⟩,some ⟨tLI,marks⟩,some ⟨tH,ha⟩,some ⟨tH,la⟩,some ⟨tH,ta⟩,none,none,none,some ⟨tInt,w.1⟩,some ⟨tInt,w.2.1⟩,some ⟨tInt,w.2.2⟩,some ⟨tInt,(T w)⟩,none] [c0,c1,c2,c3,c4,c5,c6,c7,c8,c9,c10,c11] [some ⟨tLP,steps⟩,some ⟨tLL,chains⟩,some ⟨tLS,E.names⟩,some ⟨tLS,E.paths⟩,some ⟨(tList (tIg G 265)),E.inG⟩,some ⟨(tList (tIg G 265)),E.outG⟩,some ⟨tH,ba⟩,none,some ⟨(tList (tTrip tInt tInt tInt)),(lawWishes row)⟩,none,none,none] ++ lRes G mu E ha la ta ba (⟨lv,lt,[],(stK E 5).inn,(stK E 5).out⟩ : WS)) (mu₂:=VS env.locals nL [some ⟨tLI,script⟩,some ⟨tLI,row⟩,some ⟨tLI,marks⟩,some ⟨tH,ha⟩,some ⟨tH,la⟩,some ⟨tH,ta⟩,none,none,none,some ⟨tInt,w.1⟩,some ⟨tInt,w.2.1⟩,some ⟨tInt,w.2.2⟩,some ⟨tInt,(T w)⟩,none] [c0,c1,c2,c3,c4,c5,c6,c7,c8,c9,c10,c11] [some ⟨tLP,steps⟩,some ⟨tLL,chains⟩,some ⟨tLS,E.names⟩,some ⟨tLS,E.paths⟩,some ⟨(tList (tIg G 265)),E.inG⟩,some ⟨(tList (tIg G 265)),E.outG⟩,some ⟨tH,ba⟩,none,some ⟨(tList (tTrip tInt tInt tInt)),(lawWishes row)⟩,none,none,none] ++ lRes G mu E ha la ta ba (⟨lv,lt,[],(stK E 5).inn,(stK E 5).out⟩ : WS)) (T:=tH) (x:=ta) (U:=tNone) (y:=()) (hd_G hG) (hm_add_header hG) (.var (F.var (i:=5) rfl rfl)) (fun _ _ h=>h) rfl (EvA.cons (.callU (.glb F (i:=5) rfl (g_law_call hG)) (.cons (.var (F.var (i:=10) rfl rfl)) (.cons (.var (F.var (i:=9) rfl rfl)) .nil)) (ok_law_call hG) (cal_law_call hG (by walk_at "sc") (by walk_at "sc"))) (EvA.cons (.idxD (d:=Str.empty) (Ev.toL (.var (F.celIn (i:=2) rfl rfl rfl).var)) (.var (F.var (i:=9) rfl rfl)) (by walk_at "sc") (by walk_at "sc")) .nil)).toK (CalK.at (i:=2) (cod_add_header hG (nm:=lawCall w.2.1 w.1) (val:=E.names.getD w.1.toNat Str.empty) hfL (call_clean hw2 _) hnm1.clean (by lia)).calK rfl)) rfl) (fun K v e a=>by have e : v = .none:=e; rw [e]; exact nofun) (Ex.nil fun K=>⟨rfl,rfl⟩)
  refine Ex.ifN (b:=((decide ((T w) = (1 : Int))) && ((!decide (w.1 = w.2.1)) && true))) (mu₁:=VS env.locals nL [some ⟨tLI,script⟩,some ⟨tLI,row⟩,some ⟨tLI,marks⟩,some ⟨tH,ha⟩,some ⟨tH,la⟩,some ⟨tH,ta⟩,none,none,none,some ⟨tInt,w.1⟩,some ⟨tInt,w.2.1⟩,some ⟨tInt,w.2.2⟩,some ⟨tInt,(T w)⟩,none] [c0,c1,c2,c3,c4,c5,c6,c7,c8,c9,c10,c11] [some ⟨tLP,steps⟩,some ⟨tLL,chains⟩,some ⟨tLS,E.names⟩,some ⟨tLS,E.paths⟩,some ⟨(tList (tIg G 265)),E.inG⟩,some ⟨(tList (tIg G 265)),E.outG⟩,some ⟨tH,ba⟩,none,some ⟨(tList (tTrip tInt tInt tInt)),(lawWishes row)⟩,none,none,none] ++ lRes G mu E ha la ta ba (⟨lv,wLast E.names T lt w,[],(stK E 5).inn,(stK E 5).out⟩ : WS)) (mu₂:=VS env.locals nL [some ⟨tLI,script⟩,some ⟨tLI,row⟩,some ⟨tLI,marks⟩,some ⟨tH,ha⟩,some ⟨tH,la⟩,some ⟨tH,ta⟩,none,none,none,some ⟨tInt,w.1⟩,some ⟨tInt,w.2.1⟩,some ⟨tInt,w.2.2⟩,some ⟨tInt,(T w)⟩,none] [c0,c1,c2,c3,c4,c5,c6,c7,c8,c9,c10,c11] [some ⟨tLP,steps⟩,some ⟨tLL,chains⟩,some ⟨tLS,E.names⟩,some ⟨tLS,E.paths⟩,some ⟨(tList (tIg G 265)),E.inG⟩,some ⟨(tList (tIg G 265)),E.outG⟩,some ⟨tH,ba⟩,none,some ⟨(tList (tTrip tInt tInt tInt)),(lawWishes row)⟩,none,none,none] ++ lRes G mu E ha la ta ba (⟨wLive E T lv w,wLast E.names T lt w,[],(stK E 5).inn,(stK E 5).out⟩ : WS)) (.boolOp (.andP (.ofCmp cmp_eqI (.var (F.var (i:=12) rfl rfl)) .intC) (fun hc=>(.andP (.ofCmp cmp_neI (.var (F.var (i:=9) rfl rfl)) (.var (F.var (i:=10) rfl rfl))) (fun hc=>.andNil))))) (fun hb=>?ht2) (fun hb=>?hf2) (Ex.endTo (Wk.forget (by walk_at "forget")))
  case hf2 =>
   have e : wLive E T lv w = lv:=if_neg (by rw [hb]; decide)
   rw [e]; exact Wk.refl
  case ht2 =>
   have e : wLive E T lv w = (lyAll (wE E w) ⟨[w.2.1],lv⟩).live:=if_pos hb
   rw [e]
   generalize hly : (lyAll (wE E w) ⟨[w.2.1],lv⟩).live = lv2
   have hJ : Cal G (n + 8) (.ref 303) [⟨tH,la⟩,⟨tH,ha⟩,⟨tList tStr,E.names⟩,⟨tInt,w.1⟩,⟨tInt,w.2.1⟩] (VS env.locals nL [some ⟨tLI,script⟩,some ⟨tLI,row⟩,some ⟨tLI,marks⟩,some ⟨tH,ha⟩,some ⟨tH,la⟩,some ⟨tH,ta⟩,none,none,none,some ⟨tInt,w.1⟩,some ⟨tInt,w.2.1⟩,some ⟨tInt,w.2.2⟩,some ⟨tInt,(T w)⟩,none] [c0,c1,c2,c3,c4,c5,c6,c7,c8,c9,c10,c11] [some ⟨tLP,steps⟩,some ⟨tLL,chains⟩,some ⟨tLS,E.names⟩,some ⟨tLS,E.paths⟩,some ⟨(tList (tIg G 265)),E.inG⟩,some ⟨(tList (tIg G 265)),E.outG⟩,some ⟨tH,ba⟩,none,some ⟨(tList (tTrip tInt tInt tInt)),(lawWishes row)⟩,none,none,none] ++ (rHd la lv :: rHd ha E.heads :: (rHd ta (wLast E.names T lt w) :: rHd ba [] :: (igR G E.inG (stK E 5).inn ++ (igR G E.outG (stK E 5).out ++ (rTab 288 ⟨236,30,236,52⟩ :: mu)))))) tNone () (VS env.locals nL [some ⟨tLI,script⟩,some ⟨tLI,row⟩,some ⟨tLI,marks⟩,some ⟨tH,ha⟩,some ⟨tH,la⟩,some ⟨tH,ta⟩,none,none,none,some ⟨tInt,w.1⟩,some ⟨tInt,w.2.1⟩,some ⟨tInt,w.2.2⟩,some ⟨tInt,(T w)⟩,none] [c0,c1,c2,c3,c4,c5,c6,c7,c8,c9,c10,c11] [some ⟨tLP,steps⟩,some ⟨tLL,chains⟩,some ⟨tLS,E.names⟩,some ⟨tLS,E.paths⟩,some ⟨(tList (tIg G 265)),E.inG⟩,some ⟨(tList (tIg G 265)),E.outG⟩,some ⟨tH,ba⟩,none,some ⟨(tList (tTrip tInt tInt tInt)),(lawWishes row)⟩,none,none,none] ++ (rHd la lv2 :: rHd ha E.heads :: (rHd ta (wLast E.names T lt w) :: rHd ba [] :: (igR G E.inG (stK E 5).inn ++ (igR G E.outG (stK E 5).out ++ (rTab 288 ⟨236,30,236,52⟩ :: mu)))))):=by
    have:=Cal.on (W:=VS env.locals nL [some ⟨tLI,script⟩,some ⟨tLI,row⟩,some ⟨tLI,marks⟩,some ⟨tH,ha⟩,some ⟨tH,la⟩,some ⟨tH,ta⟩,none,none,none,some ⟨tInt,w.1⟩,some ⟨tInt,w.2.1⟩,some ⟨tInt,w.2.2⟩,some ⟨tInt,(T w)⟩,none] [c0,c1,c2,c3,c4,c5,c6,c7,c8,c9,c10,c11] [some ⟨tLP,steps⟩,some ⟨tLL,chains⟩,some ⟨tLS,E.names⟩,some ⟨tLS,E.paths⟩,some ⟨(tList (tIg G 265)),E.inG⟩,some ⟨(tList (tIg G 265)),E.outG⟩,some ⟨tH,ba⟩,none,some ⟨(tList (tTrip tInt tInt tInt)),(lawWishes row)⟩,none,none,none]) (R:=(rHd ta (wLast E.names T lt w) :: rHd ba [] :: (igR G E.inG (stK E 5).inn ++ (igR G E.outG (stK E 5).out ++ (rTab 288 ⟨236,30,236,52⟩ :: mu))))) (cod_law_lay (n:=n + 2) (la:=la) (ha:=ha) hG (wE_fit hE hw1 hw2) (ly0 (E:=E) hw2 ⟨by lia,hI2⟩) rfl).toCal
    rw [hly] at this
    exact this
   have sw : ∀ (a b : Res),Wk G (VS env.locals nL [some ⟨tLI,script⟩,some ⟨tLI,row⟩,some ⟨tLI,marks⟩,some ⟨tH,ha⟩,some ⟨tH,la⟩,some ⟨tH,ta⟩,none,none,none,some ⟨tInt,w.1⟩,some ⟨tInt,w.2.1⟩,some ⟨tInt,w.2.2⟩,some ⟨tInt,(T w)⟩,none] [c0,c1,c2,c3,c4,c5,c6,c7,c8,c9,c10,c11] [some ⟨tLP,steps⟩,some ⟨tLL,chains⟩,some ⟨tLS,E.names⟩,some ⟨tLS,E.paths⟩,some ⟨(tList (tIg G 265)),E.inG⟩,some ⟨(tList (tIg G 265)),E.outG⟩,some ⟨tH,ba⟩,none,some ⟨(tList (tTrip tInt tInt tInt)),(lawWishes row)⟩,none,none,none] ++ a :: b :: (rHd ta (wLast E.names T lt w) :: rHd ba [] :: (igR G E.inG (stK E 5).inn ++ (igR G E.outG (stK E 5).out ++ (rTab 288 ⟨236,30,236,52⟩ :: mu))))) (VS env.locals nL [some ⟨tLI,script⟩,some ⟨tLI,row⟩,some ⟨tLI,marks⟩,some ⟨tH,ha⟩,some ⟨tH,la⟩,some ⟨tH,ta⟩,none,none,none,some ⟨tInt,w.1⟩,some ⟨tInt,w.2.1⟩,some ⟨tInt,w.2.2⟩,some ⟨tInt,(T w)⟩,none] [c0,c1,c2,c3,c4,c5,c6,c7,c8,c9,c10,c11] [some ⟨tLP,steps⟩,some ⟨tLL,chains⟩,some ⟨tLS,E.names⟩,some ⟨tLS,E.paths⟩,some ⟨(tList (tIg G 265)),E.inG⟩,some ⟨(tList (tIg G 265)),E.outG⟩,some ⟨tH,ba⟩,none,some ⟨(tList (tTrip tInt tInt tInt)),(lawWishes row)⟩,none,none,none] ++ b :: a :: (rHd ta (wLast E.names T lt w) :: rHd ba [] :: (igR G E.inG (stK E 5).inn ++ (igR G E.outG (stK E 5).out ++ (rTab 288 ⟨236,30,236,52⟩ :: mu))))):=fun a b=>Wk.perm (List.Perm.append_left _ (List.Perm.swap ..))
   have sw1 : Wk G (VS env.locals nL [some ⟨tLI,script⟩,some ⟨tLI,row⟩,some ⟨tLI,marks⟩,some ⟨tH,ha⟩,some ⟨tH,la⟩,some ⟨tH,ta⟩,none,none,none,some ⟨tInt,w.1⟩,some ⟨tInt,w.2.1⟩,some ⟨tInt,w.2.2⟩,some ⟨tInt,(T w)⟩,none] [c0,c1,c2,c3,c4,c5,c6,c7,c8,c9,c10,c11] [some ⟨tLP,steps⟩,some ⟨tLL,chains⟩,some ⟨tLS,E.names⟩,some ⟨tLS,E.paths⟩,some ⟨(tList (tIg G 265)),E.inG⟩,some ⟨(tList (tIg G 265)),E.outG⟩,some ⟨tH,ba⟩,none,some ⟨(tList (tTrip tInt tInt tInt)),(lawWishes row)⟩,none,none,none] ++ lRes G mu E ha la ta ba (⟨lv,wLast E.names T lt w,[],(stK E 5).inn,(stK E 5).out⟩ : WS)) (VS env.locals nL [some ⟨tLI,script⟩,some ⟨tLI,row⟩,some ⟨tLI,marks⟩,some ⟨tH,ha⟩,some ⟨tH,la⟩,some ⟨tH,ta⟩,none,none,none,some ⟨tInt,w.1⟩,some ⟨tInt,w.2.1⟩,some ⟨tInt,w.2.2⟩,some ⟨tInt,(T w)⟩,none] [c0,c1,c2,c3,c4,c5,c6,c7,c8,c9,c10,c11] [some ⟨tLP,steps⟩,some ⟨tLL,chains⟩,some ⟨tLS,E.names⟩,some ⟨tLS,E.paths⟩,some ⟨(tList (tIg G 265)),E.inG⟩,some ⟨(tList (tIg G 265)),E.outG⟩,some ⟨tH,ba⟩,none,some ⟨(tList (tTrip tInt tInt tInt)),(lawWishes row)⟩,none,none,none] ++ (rHd la lv :: rHd ha E.heads :: (rHd ta (wLast E.names T lt w) :: rHd ba [] :: (igR G E.inG (stK E 5).inn ++ (igR G E.outG (stK E 5).out ++ (rTab 288 ⟨236,30,236,52⟩ :: mu)))))):=sw (rHd ha E.heads) (rHd la lv)
   have sw2 : Wk G (VS env.locals nL [some ⟨tLI,script⟩,some ⟨tLI,row⟩,some ⟨tLI,marks⟩,some ⟨tH,ha⟩,some ⟨tH,la⟩,some ⟨tH,ta⟩,none,none,none,some ⟨tInt,w.1⟩,some ⟨tInt,w.2.1⟩,some ⟨tInt,w.2.2⟩,some ⟨tInt,(T w)⟩,none] [c0,c1,c2,c3,c4,c5,c6,c7,c8,c9,c10,c11] [some ⟨tLP,steps⟩,some ⟨tLL,chains⟩,some ⟨tLS,E.names⟩,some ⟨tLS,E.paths⟩,some ⟨(tList (tIg G 265)),E.inG⟩,some ⟨(tList (tIg G 265)),E.outG⟩,some ⟨tH,ba⟩,none,some ⟨(tList (tTrip tInt tInt tInt)),(lawWishes row)⟩,none,none,none] ++ (rHd la lv2 :: rHd ha E.heads :: (rHd ta (wLast E.names T lt w) :: rHd ba [] :: (igR G E.inG (stK E 5).inn ++ (igR G E.outG (stK E 5).out ++ (rTab 288 ⟨236,30,236,52⟩ :: mu)))))) (VS env.locals nL [some ⟨tLI,script⟩,some ⟨tLI,row⟩,some ⟨tLI,marks⟩,some ⟨tH,ha⟩,some ⟨tH,la⟩,some ⟨tH,ta⟩,none,none,none,some ⟨tInt,w.1⟩,some ⟨tInt,w.2.1⟩,some ⟨tInt,w.2.2⟩,some ⟨tInt,(T w)⟩,none] [c0,c1,c2,c3,c4,c5,c6,c7,c8,c9,c10,c11] [some ⟨tLP,steps⟩,some ⟨tLL,chains⟩,some ⟨tLS,E.names⟩,some ⟨tLS,E.paths⟩,some ⟨(tList (tIg G 265)),E.inG⟩,some ⟨(tList (tIg G 265)),E.outG⟩,some ⟨tH,ba⟩,none,some ⟨(tList (tTrip tInt tInt tInt)),(lawWishes row)⟩,none,none,none] ++ lRes G mu E ha la ta ba (⟨lv2,wLast E.names T lt w,[],(stK E 5).inn,(stK E 5).out⟩ : WS)):=sw (rHd la lv2) (rHd ha E.heads)
   refine Ex.wk sw1 ?_
   refine Ex.eff F (T:=tNone) (x:=()) (Ev.callU (mu₁:=VS env.locals nL [some ⟨tLI,script⟩,some ⟨tLI,row⟩,some ⟨tLI,marks⟩,some ⟨tH,ha⟩,some ⟨tH,la⟩,some ⟨tH,ta⟩,none,none,none,some ⟨tInt,w.1⟩,some ⟨tInt,w.2.1⟩,some ⟨tInt,w.2.2⟩,some ⟨tInt,(T w)⟩,none] [c0,c1,c2,c3,c4,c5,c6,c7,c8,c9,c10,c11] [some ⟨tLP,steps⟩,some ⟨tLL,chains⟩,some ⟨tLS,E.names⟩,some ⟨tLS,E.paths⟩,some ⟨(tList (tIg G 265)),E.inG⟩,some ⟨(tList (tIg G 265)),E.outG⟩,some ⟨tH,ba⟩,none,some ⟨(tList (tTrip tInt tInt tInt)),(lawWishes row)⟩,none,none,none] ++ (rHd la lv :: rHd ha E.heads :: (rHd ta (wLast E.names T lt w) :: rHd ba [] :: (igR G E.inG (stK E 5).inn ++ (igR G E.outG (stK E 5).out ++ (rTab 288 ⟨236,30,236,52⟩ :: mu)))))) (mu₂:=VS env.locals nL [some ⟨tLI,script⟩,some ⟨tLI,row⟩,some ⟨tLI,marks⟩,some ⟨tH,ha⟩,some ⟨tH,la⟩,some ⟨tH,ta⟩,none,none,none,some ⟨tInt,w.1⟩,some ⟨tInt,w.2.1⟩,some ⟨tInt,w.2.2⟩,some ⟨tInt,(T w)⟩,none] [c0,c1,c2,c3,c4,c5,c6,c7,c8,c9,c10,c11] [some ⟨tLP,steps⟩,some ⟨tLL,chains⟩,some ⟨tLS,E.names⟩,some ⟨tLS,E.paths⟩,some ⟨(tList (tIg G 265)),E.inG⟩,some ⟨(tList (tIg G 265)),E.outG⟩,some ⟨tH,ba⟩,none,some ⟨(tList (tTrip tInt tInt tInt)),(lawWishes row)⟩,none,none,none] ++ (rHd la lv :: rHd ha E.heads :: (rHd ta (wLast E.names T lt w) :: rHd ba [] :: (igR G E.inG (stK E 5).inn ++ (igR G E.outG (stK E 5).out ++ (rTab 288 ⟨236,30,236,52⟩ :: mu)))))) (.glb F (i:=8) rfl (g_law_lay hG)) (EvA.cons (.var (F.var (i:=4) rfl rfl)) (EvA.cons (.var (F.var (i:=3) rfl rfl)) (EvA.cons (.var (F.celIn (i:=2) rfl rfl rfl).var) (EvA.cons (.var (F.var (i:=9) rfl rfl)) (EvA.cons (.var (F.var (i:=10) rfl rfl)) .nil))))) (ok_law_lay hG) hJ) (fun K v e a=>by have e : v = .none:=e; rw [e]; exact nofun) ?_
   exact Ex.wk sw2 (Ex.nil fun K=>⟨rfl,rfl⟩)
 ·rw [List.take_length]
  exact k
noncomputable def lawReads (wishes : List (Int × Int × Int)) (chains : List (List Int)) : List (List Int):=(List.map (fun x1 : Int=>(List.map (fun x2 : Int × Int × Int=>x2.2.1) (List.filter (fun x2 : Int × Int × Int=>((decide (x2.1 = x1)) && ((decide (x2.2.2 = (0 : Int))) && ((decide (x1 ∈ (pySlice (List.getD chains (Int.toNat x2.2.1) []) none (some (-(1 : Int)))))) && true)))) wishes))) (intRange 0 (5 : Int)))
noncomputable def lawStays (wishes : List (Int × Int × Int)) (chains : List (List Int)) : List (List Int):=(List.map (fun x1 : Int=>(List.map (fun x2 : Int × Int × Int=>x2.2.1) (List.filter (fun x2 : Int × Int × Int=>((decide (x2.1 = x1)) && ((decide (x2.2.2 = (1 : Int))) && ((decide (x1 ∈ (List.getD chains (Int.toNat x2.2.1) []))) && true)))) wishes))) (intRange 0 (5 : Int)))
noncomputable def lawAlive (steps : List (Int × Int)) (reads stays : List (List Int)) : List (List Int):=(List.map (fun x1 : Int=>(ahCome steps x1 (List.map (fun x2 : Int=>x2) (List.filter (fun x2 : Int=>(!decide (x2 = x1))) ((List.getD reads (Int.toNat x1) []) ++ (List.getD stays (Int.toNat x1) [])))) 4)) (intRange 0 (5 : Int)))
noncomputable def lawEnds (steps : List (Int × Int)) (stays alive : List (List Int)) : List (List Int):=(List.map (fun x1 : Int=>(List.map (fun x2 : Int=>x2) (List.filter (fun x2 : Int=>((decide (x1 ∈ (List.getD stays (Int.toNat x2) []))) || ((!decide ((List.map (fun x3 : Int × Int=>x3.2) (List.filter (fun x3 : Int × Int=>((decide (x3.1 = x1)) && ((decide (x3.2 ∈ (List.getD alive (Int.toNat x2) []))) && true))) steps)) = [])) || false))) (intRange 0 (5 : Int))))) (intRange 0 (5 : Int)))
noncomputable def liveWant (names : List Str) (alive : List (List Int)) (v : Int) : List Str:=(List.map (fun x1 : Int=>(List.getD names (Int.toNat x1) Str.empty)) (List.filter (fun x1 : Int=>(decide (v ∈ (List.getD alive (Int.toNat x1) [])))) (intRange 0 (5 : Int))))
structure LawLive (names : List Str) (live last : List (Str × Str)) (stays alive : List (List Int)) (v : Int) : Prop where
 l1 : sortS (getAll live (lawCall v 10)) = sortS (liveWant names alive v)
 l2 : sortS (getAll last (lawCall v 17)) = sortS (liveWant names stays v)
theorem getD_all {α : Type} {l : List (List α)} {P : List α → Prop} (h0 : P []) (h : ∀ x ∈ l,P x) (i : Nat) : P (l.getD i []):=by
 rw [List.getD_eq_getElem?_getD]
 cases e : l[i]? with
 | none=>exact h0
 | some c=>exact h c (List.mem_of_getElem? e)
theorem reads_le {wishes : List (Int × Int × Int)} {chains : List (List Int)} {b : Nat} (h : wishes.length ≤ b) : ((lawReads wishes chains).length = 5 ∧ ∀ i,((lawReads wishes chains).getD i []).length ≤ b) ∧ (lawStays wishes chains).length = 5 ∧ ∀ i,((lawStays wishes chains).getD i []).length ≤ b:=by
 refine ⟨⟨by unfold lawReads; rw [List.length_map]; rfl,getD_all (P:=fun l=>l.length ≤ b) (Nat.zero_le _) fun l hl=>?_⟩,by unfold lawStays; rw [List.length_map]; rfl,getD_all (P:=fun l=>l.length ≤ b) (Nat.zero_le _) fun l hl=>?_⟩
 all_goals
  obtain ⟨d,_,rfl⟩:=List.mem_map.mp hl
  rw [List.length_map]
  exact Nat.le_trans (List.length_filter_le _ _) h
theorem ends_ok (steps : List (Int × Int)) (stays alive : List (List Int)) : (lawEnds steps stays alive).length = 5 ∧ ∀ e ∈ lawEnds steps stays alive,e.length ≤ 5 ∧ ∀ d ∈ e,0 ≤ d ∧ d < 5:=by
 refine ⟨by unfold lawEnds; rw [List.length_map]; rfl,fun e he=>?_⟩
 unfold lawEnds at he
 obtain ⟨p,_,rfl⟩:=List.mem_map.mp he
 rw [List.map_id']
 exact ⟨Nat.le_trans (List.length_filter_le _ _) (by rw [intRange_len]; decide),fun d hd=>mem_intRange.mp (List.mem_filter.mp hd).1⟩
set_option maxHeartbeats 2000000 in
theorem law_E (hG : TopOk G) {c0 c1 c2 c3 c4 c5 c6 c7 c8 c9 c10 c11 ha la ta ba : Addr} {script row marks : List Int} {steps : List (Int × Int)} {chains : List (List Int)} {E : WE} {st : WS} {Φ : Flow → KH → List Res → Prop} (F : FEnv env nL nC [c0,c1,c2,c3,c4,c5,c6,c7,c8,c9,c10,c11] nG) (hE : WFit E) (hr : row.length ≤ 11) (hs : steps.length ≤ 12 ∧ ∀ p ∈ steps,(0 ≤ p.1 ∧ p.1 < 5) ∧ (0 ≤ p.2 ∧ p.2 < 5)) (hch : ChOk chains)
  (hlv : HdFit st.live ∧ st.live.length ≤ 60) (hlt : HdFit st.last ∧ st.last.length ≤ 60)
  (hL : ∀ v,0 ≤ v ∧ v < 5 → LawLive E.names st.live st.last (lawStays (lawWishes row) chains) (lawAlive steps (lawReads (lawWishes row) chains) (lawStays (lawWishes row) chains)) v)
  (k : Ex G (n + 8) env (VS env.locals nL [some ⟨tLI,script⟩,some ⟨tLI,row⟩,some ⟨tLI,marks⟩,some ⟨tH,ha⟩,some ⟨tH,la⟩,some ⟨tH,ta⟩,none,none,none,none,none,none,none,some ⟨tLL,(lawEnds steps (lawStays (lawWishes row) chains) (lawAlive steps (lawReads (lawWishes row) chains) (lawStays (lawWishes row) chains)))⟩] [c0,c1,c2,c3,c4,c5,c6,c7,c8,c9,c10,c11] [some ⟨tLP,steps⟩,some ⟨tLL,chains⟩,some ⟨tLS,E.names⟩,some ⟨tLS,E.paths⟩,some ⟨(tList (tIg G 265)),E.inG⟩,some ⟨(tList (tIg G 265)),E.outG⟩,some ⟨tH,ba⟩,none,some ⟨(tList (tTrip tInt tInt tInt)),(lawWishes row)⟩,some ⟨tLL,(lawReads (lawWishes row) chains)⟩,some ⟨tLL,(lawStays (lawWishes row) chains)⟩,some ⟨tLL,(lawAlive steps (lawReads (lawWishes row) chains) (lawStays (lawWishes row) chains))⟩] ++ lRes G mu E ha la ta ba st) ((defBody (topSt 28)).drop 19) Φ) : Ex G (n + 8) env (VS env.locals nL [some ⟨tLI,script⟩,some ⟨tLI,row⟩,some ⟨tLI,marks⟩,some ⟨tH,ha⟩,some ⟨tH,la⟩,some ⟨tH,ta⟩,none,none,none,none,none,none,none,none] [c0,c1,c2,c3,c4,c5,c6,c7,c8,c9,c10,c11] [some ⟨tLP,steps⟩,some ⟨tLL,chains⟩,some ⟨tLS,E.names⟩,some ⟨tLS,E.paths⟩,some ⟨(tList (tIg G 265)),E.inG⟩,some ⟨(tList (tIg G 265)),E.outG⟩,some ⟨tH,ba⟩,none,some ⟨(tList (tTrip tInt tInt tInt)),(lawWishes row)⟩,none,none,none] ++ lRes G mu E ha la ta ba st) ((defBody (topSt 28)).drop 14) Φ:=by
 obtain ⟨hwl,hw⟩:=wishes_ok (row:=row)
 have hsl:=hs.1
 have hnl:=hE.names
 have hcl:=hch.len
 have hchm : ∀ i,(chains.getD i []).length ≤ 5:=getD_all (P:=fun l=>l.length ≤ 5) (Nat.zero_le _) fun c hc=>(chain_mem (hch.mem c hc)).1
 refine Ex.asg (T:=tLL) (x:=lawReads (lawWishes row) chains) (.map (T:=tInt) (U:=tLI) (fun x1 : Int=>(List.map (fun x2 : Int × Int × Int=>x2.2.1) (List.filter (fun x2 : Int × Int × Int=>((decide (x2.1 = x1)) && ((decide (x2.2.2 = (0 : Int))) && ((decide (x1 ∈ (pySlice (List.getD chains (Int.toNat x2.2.1) []) none (some (-(1 : Int)))))) && true)))) (lawWishes row)))) F (csc_of (ln:=[]) (cn:=["d"]) (fn:=["chains", "wishes"]) (gn:=[]) (by decide +kernel)) (.consF F (i:=1) rfl rfl (.consF F (i:=8) rfl rfl .nil)) (.range (.callT (.glb F (i:=6) rfl (g_range hG)) (.cons .intC .nil) cal_range1) (by walk_at "sc") (by walk_at "sc") (by walk_at "sc") (by walk_at "sc")) (by walk_at "sc") (fun e1 a1 B1 x1 h1=>match a1,B1.len with | [c1_0],_=>⟨[],[some ⟨tInt,x1⟩],rfl,(As.cel B1.F (i:=0) rfl rfl (lb rfl)),(.sift (T:=(tTrip tInt tInt tInt)) (U:=tInt) (fun x2 : Int × Int × Int=>((decide (x2.1 = x1)) && ((decide (x2.2.2 = (0 : Int))) && ((decide (x1 ∈ (pySlice (List.getD chains (Int.toNat x2.2.1) []) none (some (-(1 : Int)))))) && true)))) (fun x2 : Int × Int × Int=>x2.2.1) B1.F (csc_of (ln:=["maker", "u", "late"]) (cn:=[]) (fn:=["chains", "d"]) (gn:=[]) (by decide +kernel)) (.consS B1.S (i:=0) rfl (.consF B1.F (i:=0) rfl rfl .nil)) (.list (.var (B1.S.cel (i:=1) rfl (F.celIn (i:=8) rfl rfl rfl) _).var)) (by walk_at "sc") (fun e2 a2 B2 x2 h2=>match a2,B2.len with | [],_=>⟨[some ⟨tInt,x2.1⟩,some ⟨tInt,x2.2.1⟩,some ⟨tInt,x2.2.2⟩],[],rfl,(As.trip (As.loc B2.F (i:=0) rfl (lb rfl)) (As.loc B2.F (i:=1) rfl (lb rfl)) (As.loc B2.F (i:=2) rfl (lb rfl))),(.boolOp (.andP (.ofCmp cmp_eqI (.var (B2.F.var (i:=0) rfl rfl)) (.var (B2.S.cel (i:=1) rfl (B1.F.celIn (i:=0) rfl rfl rfl) _).var)) (fun hc=>(.andP (.ofCmp cmp_eqI (.var (B2.F.var (i:=2) rfl rfl)) .intC) (fun hc=>(.andP (.inL (eqTy_int (d:=0)) det_int (.var (B2.S.cel (i:=1) rfl (B1.F.celIn (i:=0) rfl rfl rfl) _).var) (Ev.toL (.slice (Ev.toL (.idxD (d:=[]) (Ev.toL (.var (B2.S.cel (i:=0) rfl (B1.S.cel (i:=0) rfl (F.celIn (i:=1) rfl rfl rfl) _) _).var)) (.var (B2.F.var (i:=1) rfl rfl)) (by have:=hw x2 h2; lia) (by walk_at "sc"))) .none (.some (.neg .intC)) (by have:=hchm x2.2.1.toNat; rw [sizeLine_nat]; lia)))) (fun hc=>.andNil))))))),fun hp2=>(.var (B2.F.var (i:=1) rfl rfl))⟩))⟩)) (As.cel F (i:=9) rfl rfl (lb rfl)) ?_ rfl (swC F (i:=9) rfl) rfl
 refine Ex.asg (T:=tLL) (x:=lawStays (lawWishes row) chains) (.map (T:=tInt) (U:=tLI) (fun x1 : Int=>(List.map (fun x2 : Int × Int × Int=>x2.2.1) (List.filter (fun x2 : Int × Int × Int=>((decide (x2.1 = x1)) && ((decide (x2.2.2 = (1 : Int))) && ((decide (x1 ∈ (List.getD chains (Int.toNat x2.2.1) []))) && true)))) (lawWishes row)))) F (csc_of (ln:=[]) (cn:=["d"]) (fn:=["chains", "wishes"]) (gn:=[]) (by decide +kernel)) (.consF F (i:=1) rfl rfl (.consF F (i:=8) rfl rfl .nil)) (.range (.callT (.glb F (i:=6) rfl (g_range hG)) (.cons .intC .nil) cal_range1) (by walk_at "sc") (by walk_at "sc") (by walk_at "sc") (by walk_at "sc")) (by walk_at "sc") (fun e1 a1 B1 x1 h1=>match a1,B1.len with | [c1_0],_=>⟨[],[some ⟨tInt,x1⟩],rfl,(As.cel B1.F (i:=0) rfl rfl (lb rfl)),(.sift (T:=(tTrip tInt tInt tInt)) (U:=tInt) (fun x2 : Int × Int × Int=>((decide (x2.1 = x1)) && ((decide (x2.2.2 = (1 : Int))) && ((decide (x1 ∈ (List.getD chains (Int.toNat x2.2.1) []))) && true)))) (fun x2 : Int × Int × Int=>x2.2.1) B1.F (csc_of (ln:=["maker", "u", "late"]) (cn:=[]) (fn:=["chains", "d"]) (gn:=[]) (by decide +kernel)) (.consS B1.S (i:=0) rfl (.consF B1.F (i:=0) rfl rfl .nil)) (.list (.var (B1.S.cel (i:=1) rfl (F.celIn (i:=8) rfl rfl rfl) _).var)) (by walk_at "sc") (fun e2 a2 B2 x2 h2=>match a2,B2.len with | [],_=>⟨[some ⟨tInt,x2.1⟩,some ⟨tInt,x2.2.1⟩,some ⟨tInt,x2.2.2⟩],[],rfl,(As.trip (As.loc B2.F (i:=0) rfl (lb rfl)) (As.loc B2.F (i:=1) rfl (lb rfl)) (As.loc B2.F (i:=2) rfl (lb rfl))),(.boolOp (.andP (.ofCmp cmp_eqI (.var (B2.F.var (i:=0) rfl rfl)) (.var (B2.S.cel (i:=1) rfl (B1.F.celIn (i:=0) rfl rfl rfl) _).var)) (fun hc=>(.andP (.ofCmp cmp_eqI (.var (B2.F.var (i:=2) rfl rfl)) .intC) (fun hc=>(.andP (.inL (eqTy_int (d:=0)) det_int (.var (B2.S.cel (i:=1) rfl (B1.F.celIn (i:=0) rfl rfl rfl) _).var) (Ev.toL (.idxD (d:=[]) (Ev.toL (.var (B2.S.cel (i:=0) rfl (B1.S.cel (i:=0) rfl (F.celIn (i:=1) rfl rfl rfl) _) _).var)) (.var (B2.F.var (i:=1) rfl rfl)) (by have:=hw x2 h2; lia) (by walk_at "sc")))) (fun hc=>.andNil))))))),fun hp2=>(.var (B2.F.var (i:=1) rfl rfl))⟩))⟩)) (As.cel F (i:=10) rfl rfl (lb rfl)) ?_ rfl (swC F (i:=10) rfl) rfl
 obtain ⟨⟨hrl,hri⟩,hyl,hyi⟩:=reads_le (wishes:=lawWishes row) (chains:=chains) (b:=11) (by lia)
 generalize lawReads (lawWishes row) chains = reads at *
 generalize lawStays (lawWishes row) chains = stays at *
 refine Ex.asg (T:=tLL) (x:=lawAlive steps reads stays) (.map (T:=tInt) (U:=tLI) (fun x1 : Int=>(ahCome steps x1 (List.map (fun x2 : Int=>x2) (List.filter (fun x2 : Int=>(!decide (x2 = x1))) ((List.getD reads (Int.toNat x1) []) ++ (List.getD stays (Int.toNat x1) [])))) 4)) F (csc_of (ln:=[]) (cn:=["d"]) (fn:=["reads", "stays", "steps"]) (gn:=["_law_ahead"]) (by decide +kernel)) (.consF F (i:=9) rfl rfl (.consF F (i:=10) rfl rfl (.consF F (i:=0) rfl rfl .nil))) (.range (.callT (.glb F (i:=6) rfl (g_range hG)) (.cons .intC .nil) cal_range1) (by walk_at "sc") (by walk_at "sc") (by walk_at "sc") (by walk_at "sc")) (by walk_at "sc") (fun e1 a1 B1 x1 h1=>match a1,B1.len with | [c1_0],_=>⟨[],[some ⟨tInt,x1⟩],rfl,(As.cel B1.F (i:=0) rfl rfl (lb rfl)),(.callU (.glb B1.F (i:=0) rfl (g_law_ahead hG)) (.cons (.var (B1.S.cel (i:=2) rfl (F.celIn (i:=0) rfl rfl rfl) _).var) (.cons (.var (B1.F.celIn (i:=0) rfl rfl rfl).var) (.cons (.sift (T:=tInt) (U:=tInt) (fun x2 : Int=>(!decide (x2 = x1))) (fun x2 : Int=>x2) B1.F (csc_of (ln:=["u"]) (cn:=[]) (fn:=["d"]) (gn:=[]) (by decide +kernel)) (.consF B1.F (i:=0) rfl rfl .nil) (.list (.addL (.idxD (d:=[]) (Ev.toL (.var (B1.S.cel (i:=0) rfl (F.celIn (i:=9) rfl rfl rfl) _).var)) (.var (B1.F.celIn (i:=0) rfl rfl rfl).var) (by walk_at "sc") (by walk_at "sc")) (.idxD (d:=[]) (Ev.toL (.var (B1.S.cel (i:=1) rfl (F.celIn (i:=10) rfl rfl rfl) _).var)) (.var (B1.F.celIn (i:=0) rfl rfl rfl).var) (by walk_at "sc") (by walk_at "sc")) (by have:=hri x1.toNat; have:=hyi x1.toNat; rw [sizeLine_nat]; lia))) (by have:=hri x1.toNat; have:=hyi x1.toNat; rw [List.length_append,sizeLine_nat]; lia) (fun e2 a2 B2 x2 h2=>match a2,B2.len with | [],_=>⟨[some ⟨tInt,x2⟩],[],rfl,(As.loc B2.F (i:=0) rfl (lb rfl)),(.ofCmp cmp_neI (.var (B2.F.var (i:=0) rfl rfl)) (.var (B2.S.cel (i:=0) rfl (B1.F.celIn (i:=0) rfl rfl rfl) _).var)),fun hp2=>(.var (B2.F.var (i:=0) rfl rfl))⟩)) .nil))) (ok_law_ahead hG) (cal_law_ahead hG (by walk_at "sc") (by have:=hri x1.toNat; have:=hyi x1.toNat; rw [List.length_map]; refine Nat.le_trans (List.length_filter_le _ _) ?_; rw [List.length_append]; lia)))⟩)) (As.cel F (i:=11) rfl rfl (lb rfl)) ?_ rfl (swC F (i:=11) rfl) rfl
 have hal : (lawAlive steps reads stays).length = 5:=by unfold lawAlive; rw [List.length_map]; rfl
 obtain ⟨hel,hee⟩:=ends_ok steps stays (lawAlive steps reads stays)
 generalize lawAlive steps reads stays = alive at *
 refine Ex.asgMap (T:=tInt) (U:=tLI) (fun x1 : Int=>(List.map (fun x2 : Int=>x2) (List.filter (fun x2 : Int=>((decide (x1 ∈ (List.getD stays (Int.toNat x2) []))) || ((!decide ((List.map (fun x3 : Int × Int=>x3.2) (List.filter (fun x3 : Int × Int=>((decide (x3.1 = x1)) && ((decide (x3.2 ∈ (List.getD alive (Int.toNat x2) []))) && true))) steps)) = [])) || false))) (intRange 0 (5 : Int))))) F (csc_of (ln:=[]) (cn:=["p"]) (fn:=["alive", "stays", "steps"]) (gn:=["range"]) (by decide +kernel)) (.consF F (i:=11) rfl rfl (.consF F (i:=10) rfl rfl (.consF F (i:=0) rfl rfl .nil))) (.range (.callT (.glb F (i:=6) rfl (g_range hG)) (.cons .intC .nil) cal_range1) (by walk_at "sc") (by walk_at "sc") (by walk_at "sc") (by walk_at "sc")) (by walk_at "sc") (fun e1 a1 B1 x1 h1=>match a1,B1.len with | [c1_0],_=>⟨[],[some ⟨tInt,x1⟩],rfl,(As.cel B1.F (i:=0) rfl rfl (lb rfl)),(.sift (T:=tInt) (U:=tInt) (fun x2 : Int=>((decide (x1 ∈ (List.getD stays (Int.toNat x2) []))) || ((!decide ((List.map (fun x3 : Int × Int=>x3.2) (List.filter (fun x3 : Int × Int=>((decide (x3.1 = x1)) && ((decide (x3.2 ∈ (List.getD alive (Int.toNat x2) []))) && true))) steps)) = [])) || false))) (fun x2 : Int=>x2) B1.F (csc_of (ln:=[]) (cn:=["d"]) (fn:=["alive", "p", "stays", "steps"]) (gn:=[]) (by decide +kernel)) (.consS B1.S (i:=0) rfl (.consF B1.F (i:=0) rfl rfl (.consS B1.S (i:=1) rfl (.consS B1.S (i:=2) rfl .nil)))) (.range (.callT (.glb B1.F (i:=0) rfl (g_range hG)) (.cons .intC .nil) cal_range1) (by walk_at "sc") (by walk_at "sc") (by walk_at "sc") (by walk_at "sc")) (by walk_at "sc") (fun e2 a2 B2 x2 h2=>match a2,B2.len with | [c2_0],_=>⟨[],[some ⟨tInt,x2⟩],rfl,(As.cel B2.F (i:=0) rfl rfl (lb rfl)),(.boolOp (.orP (.inL (eqTy_int (d:=0)) det_int (.var (B2.S.cel (i:=1) rfl (B1.F.celIn (i:=0) rfl rfl rfl) _).var) (Ev.toL (.idxD (d:=[]) (Ev.toL (.var (B2.S.cel (i:=2) rfl (B1.S.cel (i:=1) rfl (F.celIn (i:=10) rfl rfl rfl) _) _).var)) (.var (B2.F.celIn (i:=0) rfl rfl rfl).var) (by walk_at "sc") (by walk_at "sc")))) (fun hc=>(.orP (.ofCmp (cmp_neL (eqTy_int (d:=0))) (.sift (T:=(tPair tInt tInt)) (U:=tInt) (fun x3 : Int × Int=>((decide (x3.1 = x1)) && ((decide (x3.2 ∈ (List.getD alive (Int.toNat x2) []))) && true))) (fun x3 : Int × Int=>x3.2) B2.F (csc_of (ln:=["u", "v"]) (cn:=[]) (fn:=["alive", "d", "p"]) (gn:=[]) (by decide +kernel)) (.consS B2.S (i:=0) rfl (.consF B2.F (i:=0) rfl rfl (.consS B2.S (i:=1) rfl .nil))) (.list (.var (B2.S.cel (i:=3) rfl (B1.S.cel (i:=2) rfl (F.celIn (i:=0) rfl rfl rfl) _) _).var)) (by walk_at "sc") (fun e3 a3 B3 x3 h3=>match a3,B3.len with | [],_=>⟨[some ⟨tInt,x3.1⟩,some ⟨tInt,x3.2⟩],[],rfl,(As.pair (As.loc B3.F (i:=0) rfl (lb rfl)) (As.loc B3.F (i:=1) rfl (lb rfl))),(.boolOp (.andP (.ofCmp cmp_eqI (.var (B3.F.var (i:=0) rfl rfl)) (.var (B3.S.cel (i:=2) rfl (B2.S.cel (i:=1) rfl (B1.F.celIn (i:=0) rfl rfl rfl) _) _).var)) (fun hc=>(.andP (.inL (eqTy_int (d:=0)) det_int (.var (B3.F.var (i:=1) rfl rfl)) (Ev.toL (.idxD (d:=[]) (Ev.toL (.var (B3.S.cel (i:=0) rfl (B2.S.cel (i:=0) rfl (B1.S.cel (i:=0) rfl (F.celIn (i:=11) rfl rfl rfl) _) _) _).var)) (.var (B3.S.cel (i:=1) rfl (B2.F.celIn (i:=0) rfl rfl rfl) _).var) (by walk_at "sc") (by walk_at "sc")))) (fun hc=>.andNil))))),fun hp3=>(.var (B3.F.var (i:=1) rfl rfl))⟩)) (.listD (T:=tInt) .nil (by walk_at "sc"))) (fun hc=>.orNil))))),fun hp2=>(.var (B2.F.celIn (i:=0) rfl rfl rfl).var)⟩))⟩) (As.loc F (i:=13) rfl (lb rfl)) ?_ (swL F (i:=13) rfl rfl rfl)
 refine Ex.wk (mu₁:=VS env.locals nL [some ⟨tLI,script⟩,some ⟨tLI,row⟩,some ⟨tLI,marks⟩,some ⟨tH,ha⟩,some ⟨tH,la⟩,some ⟨tH,ta⟩,none,none,none,none,none,none,none,some ⟨tLL,(lawEnds steps stays alive)⟩] [c0,c1,c2,c3,c4,c5,c6,c7,c8,c9,c10,c11] [some ⟨tLP,steps⟩,some ⟨tLL,chains⟩,some ⟨tLS,E.names⟩,some ⟨tLS,E.paths⟩,some ⟨(tList (tIg G 265)),E.inG⟩,some ⟨(tList (tIg G 265)),E.outG⟩,some ⟨tH,ba⟩,none,some ⟨(tList (tTrip tInt tInt tInt)),(lawWishes row)⟩,some ⟨tLL,reads⟩,some ⟨tLL,stays⟩,some ⟨tLL,alive⟩] ++ lRes G mu E ha la ta ba st) Wk.refl ?_
 generalize lawEnds steps stays alive = ends at *
 refine Ex.forK (T:=tInt) (xs:=intRange 0 5) (fun j=>VS env.locals nL [some ⟨tLI,script⟩,some ⟨tLI,row⟩,some ⟨tLI,marks⟩,some ⟨tH,ha⟩,some ⟨tH,la⟩,some ⟨tH,ta⟩,none,none,none,none,none,none,none,some ⟨tLL,ends⟩] [c0,c1,c2,c3,c4,c5,c6,c7,c8,c9,c10,c11] [some ⟨tLP,steps⟩,some ⟨tLL,chains⟩,some ⟨tLS,E.names⟩,some ⟨tLS,E.paths⟩,some ⟨(tList (tIg G 265)),E.inG⟩,some ⟨(tList (tIg G 265)),E.outG⟩,some ⟨tH,ba⟩,none,some ⟨(tList (tTrip tInt tInt tInt)),(lawWishes row)⟩,some ⟨tLL,reads⟩,some ⟨tLL,stays⟩,some ⟨tLL,alive⟩] ++ lRes G mu E ha la ta ba st) (.range (.callT (.glb F (i:=6) rfl (g_range hG)) (.cons .intC .nil) cal_range1) (by walk_at "sc") (by walk_at "sc") (by walk_at "sc") (by walk_at "sc")) (fun j v hj=>⟨_,(As.cel F (i:=7) rfl rfl (lb rfl)),?_⟩) k
 have hv:=mem_intRange.mp (List.mem_of_getElem? hj)
 have hLv:=hL v hv
 have c10:=call_len hv 10
 have l10:=call_cleanL hv 10
 have c17:=call_len hv 17
 have l17:=call_cleanL hv 17
 obtain ⟨hv1,hv2⟩:=hlv
 obtain ⟨ht1,ht2⟩:=hlt
 have g1:=getAll_lenL st.live (lawCall v 10)
 have g2:=getAll_lenL st.last (lawCall v 17)
 have g3 : ∀ (f : Int → Str) (q : Int → Bool),(((intRange 0 5).filter q).map f).length < 64:=fun f q=>by
  rw [List.length_map]
  exact Nat.lt_of_le_of_lt (List.length_filter_le _ _) (by rw [intRange_len]; decide)
 refine Ex.ifF (.ofCmp (cmp_neL (eqTy_str (d:=0))) (.callB (.glb F (i:=9) rfl (g_sorted hG)) (.cons (Ev.meth (T:=tH) (x:=la) (hd_G hG) (hm_get_all hG) (.var (F.var (i:=4) rfl rfl)) (fun _ _ h=>h) rfl (EvA.cons (.callU (.glb F (i:=5) rfl (g_law_call hG)) (.cons (.var (F.celIn (i:=7) rfl rfl rfl).var) (.cons .intC .nil)) (ok_law_call hG) (cal_law_call hG (by walk_at "sc") (by walk_at "sc"))) .nil).toK (CalK.at0 (i:=1) (cod_get_all hG (by walk_at "sc") (by walk_at "sc") (by walk_at "sc")).calK rfl)) .nil) (cal_sortedS (by walk_at "sc"))) (.callB (.glb F (i:=9) rfl (g_sorted hG)) (.cons (.sift (T:=tInt) (U:=tStr) (fun x1 : Int=>(decide (v ∈ (List.getD alive (Int.toNat x1) [])))) (fun x1 : Int=>(List.getD E.names (Int.toNat x1) Str.empty)) F (csc_of (ln:=["d"]) (cn:=[]) (fn:=["alive", "names", "v"]) (gn:=[]) (by decide +kernel)) (.consF F (i:=11) rfl rfl (.consF F (i:=2) rfl rfl (.consF F (i:=7) rfl rfl .nil))) (.range (.callT (.glb F (i:=6) rfl (g_range hG)) (.cons .intC .nil) cal_range1) (by walk_at "sc") (by walk_at "sc") (by walk_at "sc") (by walk_at "sc")) (by walk_at "sc") (fun e1 a1 B1 x1 h1=>match a1,B1.len with | [],_=>⟨[some ⟨tInt,x1⟩],[],rfl,(As.loc B1.F (i:=0) rfl (lb rfl)),(.inL (eqTy_int (d:=0)) det_int (.var (B1.S.cel (i:=2) rfl (F.celIn (i:=7) rfl rfl rfl) _).var) (Ev.toL (.idxD (d:=[]) (Ev.toL (.var (B1.S.cel (i:=0) rfl (F.celIn (i:=11) rfl rfl rfl) _).var)) (.var (B1.F.var (i:=0) rfl rfl)) (by walk_at "sc") (by walk_at "sc")))),fun hp1=>(.idxD (d:=Str.empty) (Ev.toL (.var (B1.S.cel (i:=1) rfl (F.celIn (i:=2) rfl rfl rfl) _).var)) (.var (B1.F.var (i:=0) rfl rfl)) (by walk_at "sc") (by walk_at "sc"))⟩)) .nil) (cal_sortedS (g3 _ _)))) ?h1 ?_
 case h1 =>
  rw [Bool.not_eq_false']
  exact decide_eq_true hLv.l1
 refine Ex.ifF (.ofCmp (cmp_neL (eqTy_str (d:=0))) (.callB (.glb F (i:=9) rfl (g_sorted hG)) (.cons (Ev.meth (T:=tH) (x:=ta) (hd_G hG) (hm_get_all hG) (.var (F.var (i:=5) rfl rfl)) (fun _ _ h=>h) rfl (EvA.cons (.callU (.glb F (i:=5) rfl (g_law_call hG)) (.cons (.var (F.celIn (i:=7) rfl rfl rfl).var) (.cons .intC .nil)) (ok_law_call hG) (cal_law_call hG (by walk_at "sc") (by walk_at "sc"))) .nil).toK (CalK.at0 (i:=2) (cod_get_all hG (by walk_at "sc") (by walk_at "sc") (by walk_at "sc")).calK rfl)) .nil) (cal_sortedS (by walk_at "sc"))) (.callB (.glb F (i:=9) rfl (g_sorted hG)) (.cons (.sift (T:=tInt) (U:=tStr) (fun x1 : Int=>(decide (v ∈ (List.getD stays (Int.toNat x1) [])))) (fun x1 : Int=>(List.getD E.names (Int.toNat x1) Str.empty)) F (csc_of (ln:=["d"]) (cn:=[]) (fn:=["names", "stays", "v"]) (gn:=[]) (by decide +kernel)) (.consF F (i:=2) rfl rfl (.consF F (i:=10) rfl rfl (.consF F (i:=7) rfl rfl .nil))) (.range (.callT (.glb F (i:=6) rfl (g_range hG)) (.cons .intC .nil) cal_range1) (by walk_at "sc") (by walk_at "sc") (by walk_at "sc") (by walk_at "sc")) (by walk_at "sc") (fun e1 a1 B1 x1 h1=>match a1,B1.len with | [],_=>⟨[some ⟨tInt,x1⟩],[],rfl,(As.loc B1.F (i:=0) rfl (lb rfl)),(.inL (eqTy_int (d:=0)) det_int (.var (B1.S.cel (i:=2) rfl (F.celIn (i:=7) rfl rfl rfl) _).var) (Ev.toL (.idxD (d:=[]) (Ev.toL (.var (B1.S.cel (i:=1) rfl (F.celIn (i:=10) rfl rfl rfl) _).var)) (.var (B1.F.var (i:=0) rfl rfl)) (by walk_at "sc") (by walk_at "sc")))),fun hp1=>(.idxD (d:=Str.empty) (Ev.toL (.var (B1.S.cel (i:=0) rfl (F.celIn (i:=2) rfl rfl rfl) _).var)) (.var (B1.F.var (i:=0) rfl rfl)) (by walk_at "sc") (by walk_at "sc"))⟩)) .nil) (cal_sortedS (g3 _ _)))) ?h2 (Ex.endTo (Wk.forgetA (by walk_at "forget") (by walk_at "forget")))
 case h2 =>
  rw [Bool.not_eq_false']
  exact decide_eq_true hLv.l2
noncomputable def endsWant (names : List Str) (ends : List (List Int)) : List (List Str):=(List.map (fun x1 : List Int=>(sortS (List.map (fun x2 : Int=>(List.getD names (Int.toNat x2) Str.empty)) x1))) ends)
noncomputable def keysWant (reads stays : List (List Int)) : List Str:=(List.map (fun x1 : Int=>(lawCall x1 (3 : Int))) (List.filter (fun x1 : Int=>(!decide (((List.getD reads (Int.toNat x1) []) ++ (List.getD stays (Int.toNat x1) [])) = []))) (intRange 0 (5 : Int))))
noncomputable def bxTell (bx : List (Str × Str)) (key : Str) : Str:=(sdH bx (Txt.lower key) ("" : Str)).1
noncomputable def finRow (E : WE) (i : Nat) : List Int:=E.names.map fun nm=>(igNames (E.inG.getD i ig0) (askIn E i).2 none nm).1
noncomputable def finWant (chains : List (List Int)) : List (List Int):=(List.map (fun x1 : Int=>(List.map (fun x2 : Int=>(if (decide (x1 ∈ (List.getD chains (Int.toNat x2) []))) = true then (1 : Int) else (0 : Int))) (intRange 0 (5 : Int)))) (intRange 0 (5 : Int)))
noncomputable def bE (E : WE) (st : WS) (steps : List (Int × Int)) : BEnv:=⟨st.live,st.last,E.names,steps⟩
structure LawFin (steps : List (Int × Int)) (chains reads stays ends : List (List Int)) (E : WE) (st : WS) (bx : List (Str × Str)) : Prop where
 box : ∀ k : Nat,k < 5 → BxOk (bE E st steps) (bxAt (bE E st steps) [] k) (k : Int)
 at5 : bxAt (bE E st steps) [] 5 = bx
 len : bx.length ≤ 5
 fit : ∀ kv ∈ bx,kv.1.length ≤ 10 ∧ kv.2.length ≤ 10
 outs : bxOuts (bE E st steps) 5 = endsWant E.names ends
 keys : bx.map (·.1) = keysWant reads stays
 tell : ∀ key ∈ bx.map (·.1),(sdH bx (Txt.lower key) ("" : Str)).2 = bx
 vals : (bx.map (·.1)).map (bxTell bx) = bx.map (·.2)
 most : maxI ([(0 : Int)] ++ (bx.map (·.2)).map fun x1 : Str=>((Str.length x1 : Nat) : Int)) = maxI (ends.map fun x1 : List Int=>((List.length x1 : Nat) : Int))
 fin : (List.range 5).map (finRow E) = finWant chains
theorem keys_ok {reads stays : List (List Int)} {key : Str} (h : key ∈ keysWant reads stays) : key.length ≤ 5 ∧ (Txt.lower key).length ≤ 5 ∧ Clean (Txt.lower key) ∧ Clean (Txt.lower (Txt.lower key)):=by
 unfold keysWant at h
 obtain ⟨d,hd,rfl⟩:=List.mem_map.mp h
 have hd:=mem_intRange.mp (List.mem_filter.mp hd).1
 rw [call_lower hd]
 exact ⟨call_len hd 3,call_len hd 0,call_clean hd 0,call_cleanL hd 0⟩
set_option maxHeartbeats 2000000 in
theorem law_F (hG : TopOk G) {c0 c1 c2 c3 c4 c5 c6 c7 c8 c9 c10 c11 ha la ta ba : Addr} {script row marks : List Int} {steps : List (Int × Int)} {wishes : List (Int × Int × Int)} {chains reads stays alive ends : List (List Int)} {E : WE} {st : WS} {bx : List (Str × Str)} {T : Int × Int × Int → Int} (F : FEnv env nL nC [c0,c1,c2,c3,c4,c5,c6,c7,c8,c9,c10,c11] nG) (hE : WFit E) (hs : steps.length ≤ 12 ∧ ∀ p ∈ steps,(0 ≤ p.1 ∧ p.1 < 5) ∧ (0 ≤ p.2 ∧ p.2 < 5)) (hch : ChOk chains)
  (hrl : reads.length = 5 ∧ ∀ i,(reads.getD i []).length ≤ 11) (hyl : stays.length = 5 ∧ ∀ i,(stays.getD i []).length ≤ 11) (hee : ends.length = 5 ∧ ∀ e ∈ ends,e.length ≤ 5 ∧ ∀ d ∈ e,0 ≤ d ∧ d < 5)
  (hlv : RowOk E st.live ∧ st.live.length ≤ 60) (hlt : RowOk E st.last ∧ st.last.length ≤ 60) (hbx : st.boxes = []) (hinn : st.inn = (stK E 5).inn) (hK : LawKept E T)
  (hL : LawFin steps chains reads stays ends E st bx) : Ex G (n + 8) env (VS env.locals nL [some ⟨tLI,script⟩,some ⟨tLI,row⟩,some ⟨tLI,marks⟩,some ⟨tH,ha⟩,some ⟨tH,la⟩,some ⟨tH,ta⟩,none,none,none,none,none,none,none,some ⟨tLL,ends⟩] [c0,c1,c2,c3,c4,c5,c6,c7,c8,c9,c10,c11] [some ⟨tLP,steps⟩,some ⟨tLL,chains⟩,some ⟨tLS,E.names⟩,some ⟨tLS,E.paths⟩,some ⟨(tList (tIg G 265)),E.inG⟩,some ⟨(tList (tIg G 265)),E.outG⟩,some ⟨tH,ba⟩,none,some ⟨(tList (tTrip tInt tInt tInt)),wishes⟩,some ⟨tLL,reads⟩,some ⟨tLL,stays⟩,some ⟨tLL,alive⟩] ++ lRes G [] E ha la ta ba st) ((defBody (topSt 28)).drop 19) (rRet G tBool true [rTab 288 ⟨236,30,236,52⟩]):=by
 have hnl:=hE.names
 have hcl:=hch.len
 obtain ⟨hel,hee⟩:=hee
 obtain ⟨hrl,hri⟩:=hrl
 obtain ⟨hyl,hyi⟩:=hyl
 have hB : BFit (bE E st steps):=⟨⟨hlv.1.fit hE (by lia),Nat.le_trans hlv.2 (by decide)⟩,⟨hlt.1.fit hE (by lia),Nat.le_trans hlt.2 (by decide)⟩,hnl,hE.nm,hs,⟨fun kv h=>(hlv.1 kv h).2,fun kv h=>(hlt.1 kv h).2⟩⟩
 have hJ : Cal G (n + 8) (.ref 308) [⟨tH,la⟩,⟨tH,ta⟩,⟨tList tStr,E.names⟩,⟨tList (tPair tInt tInt),steps⟩,⟨tH,ba⟩] (VS env.locals nL [some ⟨tLI,script⟩,some ⟨tLI,row⟩,some ⟨tLI,marks⟩,some ⟨tH,ha⟩,some ⟨tH,la⟩,some ⟨tH,ta⟩,none,none,none,none,none,none,none,some ⟨tLL,ends⟩] [c0,c1,c2,c3,c4,c5,c6,c7,c8,c9,c10,c11] [some ⟨tLP,steps⟩,some ⟨tLL,chains⟩,some ⟨tLS,E.names⟩,some ⟨tLS,E.paths⟩,some ⟨(tList (tIg G 265)),E.inG⟩,some ⟨(tList (tIg G 265)),E.outG⟩,some ⟨tH,ba⟩,none,some ⟨(tList (tTrip tInt tInt tInt)),wishes⟩,some ⟨tLL,reads⟩,some ⟨tLL,stays⟩,some ⟨tLL,alive⟩] ++ lRes G [] E ha la ta ba st) (tList tLS) (bxOuts (bE E st steps) 5) (VS env.locals nL [some ⟨tLI,script⟩,some ⟨tLI,row⟩,some ⟨tLI,marks⟩,some ⟨tH,ha⟩,some ⟨tH,la⟩,some ⟨tH,ta⟩,none,none,none,none,none,none,none,some ⟨tLL,ends⟩] [c0,c1,c2,c3,c4,c5,c6,c7,c8,c9,c10,c11] [some ⟨tLP,steps⟩,some ⟨tLL,chains⟩,some ⟨tLS,E.names⟩,some ⟨tLS,E.paths⟩,some ⟨(tList (tIg G 265)),E.inG⟩,some ⟨(tList (tIg G 265)),E.outG⟩,some ⟨tH,ba⟩,none,some ⟨(tList (tTrip tInt tInt tInt)),wishes⟩,some ⟨tLL,reads⟩,some ⟨tLL,stays⟩,some ⟨tLL,alive⟩] ++ lRes G [] E ha la ta ba ({ st with boxes:=bx } : WS)):=by
  have:=Cal.on (W:=VS env.locals nL [some ⟨tLI,script⟩,some ⟨tLI,row⟩,some ⟨tLI,marks⟩,some ⟨tH,ha⟩,some ⟨tH,la⟩,some ⟨tH,ta⟩,none,none,none,none,none,none,none,some ⟨tLL,ends⟩] [c0,c1,c2,c3,c4,c5,c6,c7,c8,c9,c10,c11] [some ⟨tLP,steps⟩,some ⟨tLL,chains⟩,some ⟨tLS,E.names⟩,some ⟨tLS,E.paths⟩,some ⟨(tList (tIg G 265)),E.inG⟩,some ⟨(tList (tIg G 265)),E.outG⟩,some ⟨tH,ba⟩,none,some ⟨(tList (tTrip tInt tInt tInt)),wishes⟩,some ⟨tLL,reads⟩,some ⟨tLL,stays⟩,some ⟨tLL,alive⟩] ++ [rHd ha E.heads]) (R:=(igR G E.inG st.inn ++ (igR G E.outG st.out ++ (rTab 288 ⟨236,30,236,52⟩ :: [])))) (cod_law_boxed (n:=n) (la:=la) (ta:=ta) (ba:=ba) hG hB hL.box).toCal
  rw [hL.at5,← hbx] at this
  simp only [List.append_assoc,List.cons_append,List.nil_append] at this
  exact this
 have hsrt : ∀ (f : Int → Str) (e : List Int),e ∈ ends → (e.map f).length < 64:=fun f e he=>by rw [List.length_map]; have:=(hee e he).1; lia
 refine Ex.ifF (mu₁:=VS env.locals nL [some ⟨tLI,script⟩,some ⟨tLI,row⟩,some ⟨tLI,marks⟩,some ⟨tH,ha⟩,some ⟨tH,la⟩,some ⟨tH,ta⟩,none,none,none,none,none,none,none,some ⟨tLL,ends⟩] [c0,c1,c2,c3,c4,c5,c6,c7,c8,c9,c10,c11] [some ⟨tLP,steps⟩,some ⟨tLL,chains⟩,some ⟨tLS,E.names⟩,some ⟨tLS,E.paths⟩,some ⟨(tList (tIg G 265)),E.inG⟩,some ⟨(tList (tIg G 265)),E.outG⟩,some ⟨tH,ba⟩,none,some ⟨(tList (tTrip tInt tInt tInt)),wishes⟩,some ⟨tLL,reads⟩,some ⟨tLL,stays⟩,some ⟨tLL,alive⟩] ++ lRes G [] E ha la ta ba ({ st with boxes:=bx } : WS)) (.ofCmp (cmp_neL (eqTy_list (eqTy_str (d:=0)) det_str)) (Ev.callU (mu₁:=VS env.locals nL [some ⟨tLI,script⟩,some ⟨tLI,row⟩,some ⟨tLI,marks⟩,some ⟨tH,ha⟩,some ⟨tH,la⟩,some ⟨tH,ta⟩,none,none,none,none,none,none,none,some ⟨tLL,ends⟩] [c0,c1,c2,c3,c4,c5,c6,c7,c8,c9,c10,c11] [some ⟨tLP,steps⟩,some ⟨tLL,chains⟩,some ⟨tLS,E.names⟩,some ⟨tLS,E.paths⟩,some ⟨(tList (tIg G 265)),E.inG⟩,some ⟨(tList (tIg G 265)),E.outG⟩,some ⟨tH,ba⟩,none,some ⟨(tList (tTrip tInt tInt tInt)),wishes⟩,some ⟨tLL,reads⟩,some ⟨tLL,stays⟩,some ⟨tLL,alive⟩] ++ lRes G [] E ha la ta ba st) (mu₂:=VS env.locals nL [some ⟨tLI,script⟩,some ⟨tLI,row⟩,some ⟨tLI,marks⟩,some ⟨tH,ha⟩,some ⟨tH,la⟩,some ⟨tH,ta⟩,none,none,none,none,none,none,none,some ⟨tLL,ends⟩] [c0,c1,c2,c3,c4,c5,c6,c7,c8,c9,c10,c11] [some ⟨tLP,steps⟩,some ⟨tLL,chains⟩,some ⟨tLS,E.names⟩,some ⟨tLS,E.paths⟩,some ⟨(tList (tIg G 265)),E.inG⟩,some ⟨(tList (tIg G 265)),E.outG⟩,some ⟨tH,ba⟩,none,some ⟨(tList (tTrip tInt tInt tInt)),wishes⟩,some ⟨tLL,reads⟩,some ⟨tLL,stays⟩,some ⟨tLL,alive⟩] ++ lRes G [] E ha la ta ba st) (.glb F (i:=10) rfl (g_law_boxed hG)) (EvA.cons (.var (F.var (i:=4) rfl rfl)) (EvA.cons (.var (F.var (i:=5) rfl rfl)) (EvA.cons (.var (F.celIn (i:=2) rfl rfl rfl).var) (EvA.cons (.var (F.celIn (i:=0) rfl rfl rfl).var) (EvA.cons (.var (F.celIn (i:=6) rfl rfl rfl).var) .nil))))) (ok_law_boxed hG) hJ) (.map (T:=tLI) (U:=tLS) (fun x1 : List Int=>(sortS (List.map (fun x2 : Int=>(List.getD E.names (Int.toNat x2) Str.empty)) x1))) F (csc_of (ln:=["end"]) (cn:=[]) (fn:=["names"]) (gn:=["sorted"]) (by decide +kernel)) (.consF F (i:=2) rfl rfl .nil) (.list (.var (F.var (i:=13) rfl rfl))) (by walk_at "sc") (fun e1 a1 B1 x1 h1=>match a1,B1.len with | [],_=>⟨[some ⟨tLI,x1⟩],[],rfl,(As.loc B1.F (i:=0) rfl (lb rfl)),(.callB (.glb B1.F (i:=0) rfl (g_sorted hG)) (.cons (.map (T:=tInt) (U:=tStr) (fun x2 : Int=>(List.getD E.names (Int.toNat x2) Str.empty)) B1.F (csc_of (ln:=["d"]) (cn:=[]) (fn:=["names"]) (gn:=[]) (by decide +kernel)) (.consS B1.S (i:=0) rfl .nil) (.list (.var (B1.F.var (i:=0) rfl rfl))) (by have:=(hee x1 h1).1; rw [sizeLine_nat]; lia) (fun e2 a2 B2 x2 h2=>match a2,B2.len with | [],_=>⟨[some ⟨tInt,x2⟩],[],rfl,(As.loc B2.F (i:=0) rfl (lb rfl)),(.idxD (d:=Str.empty) (Ev.toL (.var (B2.S.cel (i:=0) rfl (B1.S.cel (i:=0) rfl (F.celIn (i:=2) rfl rfl rfl) _) _).var)) (.var (B2.F.var (i:=0) rfl rfl)) (by have:=(hee x1 h1).2 x2 h2; lia) (by walk_at "sc"))⟩)) .nil) (cal_sortedS (hsrt _ _ h1)))⟩))) ?h19 ?_
 case h19 =>
  rw [Bool.not_eq_false']
  exact decide_eq_true hL.outs
 have hbl:=hL.len
 have hbf : HdFit bx:=⟨by lia,fun kv hkv=>⟨by have:=(hL.fit kv hkv).1; lia,by have:=(hL.fit kv hkv).2; lia⟩⟩
 have hky : ∀ key ∈ bx.map (·.1),key.length ≤ 5 ∧ (Txt.lower key).length ≤ 5 ∧ Clean (Txt.lower key) ∧ Clean (Txt.lower (Txt.lower key)):=fun key h=>by
  rw [hL.keys] at h
  exact keys_ok h
 refine Ex.ifF (.ofCmp (cmp_neL (eqTy_str (d:=0))) (Ev.meth (T:=tH) (x:=ba) (hd_G hG) (hm_keys hG) (.var (F.celIn (i:=6) rfl rfl rfl).var) (fun _ _ h=>h) rfl EvAK.none (CalK.at0 (i:=3) (cod_keys hG hbf).calK rfl)) (.sift (T:=tInt) (U:=tStr) (fun x1 : Int=>(!decide (((List.getD reads (Int.toNat x1) []) ++ (List.getD stays (Int.toNat x1) [])) = []))) (fun x1 : Int=>(lawCall x1 (3 : Int))) F (csc_of (ln:=["d"]) (cn:=[]) (fn:=["reads", "stays"]) (gn:=["_law_call"]) (by decide +kernel)) (.consF F (i:=9) rfl rfl (.consF F (i:=10) rfl rfl .nil)) (.range (.callT (.glb F (i:=6) rfl (g_range hG)) (.cons .intC .nil) cal_range1) (by walk_at "sc") (by walk_at "sc") (by walk_at "sc") (by walk_at "sc")) (by walk_at "sc") (fun e1 a1 B1 x1 h1=>match a1,B1.len with | [],_=>⟨[some ⟨tInt,x1⟩],[],rfl,(As.loc B1.F (i:=0) rfl (lb rfl)),(.ofCmp (cmp_neL (eqTy_int (d:=0))) (.addL (.idxD (d:=[]) (Ev.toL (.var (B1.S.cel (i:=0) rfl (F.celIn (i:=9) rfl rfl rfl) _).var)) (.var (B1.F.var (i:=0) rfl rfl)) (by walk_at "sc") (by walk_at "sc")) (.idxD (d:=[]) (Ev.toL (.var (B1.S.cel (i:=1) rfl (F.celIn (i:=10) rfl rfl rfl) _).var)) (.var (B1.F.var (i:=0) rfl rfl)) (by walk_at "sc") (by walk_at "sc")) (by have:=hri x1.toNat; have:=hyi x1.toNat; rw [sizeLine_nat]; lia)) (.listD (T:=tInt) .nil (by walk_at "sc"))),fun hp1=>(.callU (.glb B1.F (i:=0) rfl (g_law_call hG)) (.cons (.var (B1.F.var (i:=0) rfl rfl)) (.cons .intC .nil)) (ok_law_call hG) (cal_law_call hG (by walk_at "sc") (by walk_at "sc")))⟩))) ?h20 ?_
 case h20 =>
  rw [Bool.not_eq_false']
  exact decide_eq_true hL.keys
 refine Ex.ifF (.ofCmp (cmp_neL (eqTy_str (d:=0))) (.map (T:=tStr) (U:=tStr) (bxTell bx) F (csc_of (ln:=["key"]) (cn:=[]) (fn:=["boxes"]) (gn:=[]) (by decide +kernel)) (.consF F (i:=6) rfl rfl .nil) (.list (Ev.meth (T:=tH) (x:=ba) (hd_G hG) (hm_keys hG) (.var (F.celIn (i:=6) rfl rfl rfl).var) (fun _ _ h=>h) rfl EvAK.none (CalK.at0 (i:=3) (cod_keys hG hbf).calK rfl))) (by rw [List.length_map,sizeLine_nat]; lia) (fun e1 a1 B1 x hx=>match a1,B1.len with | [],_=>⟨[some ⟨tStr,x⟩],[],rfl,(As.loc B1.F (i:=0) rfl (lb rfl)),(by
  obtain ⟨k1,k2,k3,k4⟩:=hky x hx
  have hcal:=(cod_setdefault (n:=n + 4) (a:=ba) hG hbf (nm:=Txt.lower x) (val:=("" : Str)) (by lia) k4 k3 (clean_of (by decide +kernel))).calK
  rw [hL.tell x hx] at hcal
  exact Ev.meth (mu₁:=VS e1.locals ["key"] [some ⟨tStr,x⟩] [] [] ++ (VS env.locals nL [some ⟨tLI,script⟩,some ⟨tLI,row⟩,some ⟨tLI,marks⟩,some ⟨tH,ha⟩,some ⟨tH,la⟩,some ⟨tH,ta⟩,none,none,none,none,none,none,none,some ⟨tLL,ends⟩] [c0,c1,c2,c3,c4,c5,c6,c7,c8,c9,c10,c11] [some ⟨tLP,steps⟩,some ⟨tLL,chains⟩,some ⟨tLS,E.names⟩,some ⟨tLS,E.paths⟩,some ⟨(tList (tIg G 265)),E.inG⟩,some ⟨(tList (tIg G 265)),E.outG⟩,some ⟨tH,ba⟩,none,some ⟨(tList (tTrip tInt tInt tInt)),wishes⟩,some ⟨tLL,reads⟩,some ⟨tLL,stays⟩,some ⟨tLL,alive⟩] ++ lRes G [] E ha la ta ba ({ st with boxes:=bx } : WS))) (mu₂:=VS e1.locals ["key"] [some ⟨tStr,x⟩] [] [] ++ (VS env.locals nL [some ⟨tLI,script⟩,some ⟨tLI,row⟩,some ⟨tLI,marks⟩,some ⟨tH,ha⟩,some ⟨tH,la⟩,some ⟨tH,ta⟩,none,none,none,none,none,none,none,some ⟨tLL,ends⟩] [c0,c1,c2,c3,c4,c5,c6,c7,c8,c9,c10,c11] [some ⟨tLP,steps⟩,some ⟨tLL,chains⟩,some ⟨tLS,E.names⟩,some ⟨tLS,E.paths⟩,some ⟨(tList (tIg G 265)),E.inG⟩,some ⟨(tList (tIg G 265)),E.outG⟩,some ⟨tH,ba⟩,none,some ⟨(tList (tTrip tInt tInt tInt)),wishes⟩,some ⟨tLL,reads⟩,some ⟨tLL,stays⟩,some ⟨tLL,alive⟩] ++ lRes G [] E ha la ta ba ({ st with boxes:=bx } : WS))) (T:=tH) (x:=ba) (U:=tStr) (hd_G hG) (hm_setdefault hG) (.var (B1.S.cel (i:=0) rfl (F.celIn (i:=6) rfl rfl rfl) _).var) (fun _ _ h=>h) rfl (EvA.cons (.str0 PySem.F.slot_str_lower PySem.F.type_str_lower (.var (B1.F.var (i:=0) rfl rfl)) (cal_lower (by walk_at "sc"))) (EvA.cons .strC .nil)).toK (CalK.at02 (i:=3) hcal rfl))⟩)) (Ev.meth (T:=tH) (x:=ba) (hd_G hG) (hm_values hG) (.var (F.celIn (i:=6) rfl rfl rfl).var) (fun _ _ h=>h) rfl EvAK.none (CalK.at0 (i:=3) (cod_values hG hbf).calK rfl))) ?h21 ?_
 case h21 =>
  rw [Bool.not_eq_false']
  exact decide_eq_true hL.vals
 have hvl : ∀ s ∈ bx.map (·.2),s.length ≤ 10:=fun s hs=>by obtain ⟨kv,q,rfl⟩:=List.mem_map.mp hs; exact (hL.fit kv q).2
 refine Ex.ifF (.ofCmp cmp_neI (.callB (.glb F (i:=11) rfl (g_max hG)) (.cons (.addL (.listD (T:=tInt) (.cons .intC .nil) (by walk_at "sc")) (.map (T:=tStr) (U:=tInt) (fun x1 : Str=>((Str.length x1 : Nat) : Int)) F (csc_of (ln:=["box"]) (cn:=[]) (fn:=[]) (gn:=["len"]) (by decide +kernel)) .nil (.list (Ev.meth (T:=tH) (x:=ba) (hd_G hG) (hm_values hG) (.var (F.celIn (i:=6) rfl rfl rfl).var) (fun _ _ h=>h) rfl EvAK.none (CalK.at0 (i:=3) (cod_values hG hbf).calK rfl))) (by walk_at "sc") (fun e1 a1 B1 x1 h1=>match a1,B1.len with | [],_=>⟨[some ⟨tStr,x1⟩],[],rfl,(As.loc B1.F (i:=0) rfl (lb rfl)),(.callB (.glb B1.F (i:=0) rfl (g_len hG)) (.cons (.var (B1.F.var (i:=0) rfl rfl)) .nil) (cal_lenS (by have:=hvl x1 h1; rw [sizeLine_nat]; lia)))⟩)) (by walk_at "sc")) .nil) (cal_max (by walk_at "sc"))) (.callB (.glb F (i:=11) rfl (g_max hG)) (.cons (.map (T:=tLI) (U:=tInt) (fun x1 : List Int=>((List.length x1 : Nat) : Int)) F (csc_of (ln:=["end"]) (cn:=[]) (fn:=[]) (gn:=["len"]) (by decide +kernel)) .nil (.list (.var (F.var (i:=13) rfl rfl))) (by walk_at "sc") (fun e1 a1 B1 x1 h1=>match a1,B1.len with | [],_=>⟨[some ⟨tLI,x1⟩],[],rfl,(As.loc B1.F (i:=0) rfl (lb rfl)),(.callB (.glb B1.F (i:=0) rfl (g_len hG)) (.cons (.var (B1.F.var (i:=0) rfl rfl)) .nil) (cal_lenL (by have:=(hee x1 h1).1; rw [sizeLine_nat]; lia)))⟩)) .nil) (cal_max (by walk_at "sc")))) ?h22 ?_
 case h22 =>
  rw [Bool.not_eq_false']
  exact decide_eq_true hL.most
 have hil:=hE.inG
 refine Ex.ret (T:=tBool) (x:=true) (Ev.conv (.ofCmp (cmp_eqL (eqTy_list (eqTy_int (d:=0)) det_int)) (Ev.compS (T:=tIg G 265) (U:=tList tInt) (xs:=E.inG) (fun i=>VS env.locals nL [some ⟨tLI,script⟩,some ⟨tLI,row⟩,some ⟨tLI,marks⟩,some ⟨tH,ha⟩,some ⟨tH,la⟩,some ⟨tH,ta⟩,none,none,none,none,none,none,none,some ⟨tLL,ends⟩] [c0,c1,c2,c3,c4,c5,c6,c7,c8,c9,c10,c11] [some ⟨tLP,steps⟩,some ⟨tLL,chains⟩,some ⟨tLS,E.names⟩,some ⟨tLS,E.paths⟩,some ⟨(tList (tIg G 265)),E.inG⟩,some ⟨(tList (tIg G 265)),E.outG⟩,some ⟨tH,ba⟩,none,some ⟨(tList (tTrip tInt tInt tInt)),wishes⟩,some ⟨tLL,reads⟩,some ⟨tLL,stays⟩,some ⟨tLL,alive⟩] ++ lRes G [] E ha la ta ba ({ st with boxes:=bx } : WS)) (fun i=>(List.range i).map (finRow E)) F (csc_of (ln:=[]) (cn:=["one"]) (fn:=["names"]) (gn:=[]) (by decide +kernel)) (.consF F (i:=2) rfl rfl .nil) (.list (.var (F.celIn (i:=4) rfl rfl rfl).var)) rfl rfl (fun i hi=>?hz) (fun e1 a1 B1 i g hp=>match a1,B1.len with | [c1_0],_=>⟨[],[some ⟨(tIg G 265),g⟩],true,rfl,(As.cel B1.F (i:=0) rfl rfl (lb rfl)),Tests.nil,fun _=>⟨finRow E i,(.map (T:=tStr) (U:=tInt) (fun nm=>(igNames (E.inG.getD i ig0) (askIn E i).2 none nm).1) B1.F (csc_of (ln:=["name"]) (cn:=[]) (fn:=["one"]) (gn:=[]) (by decide +kernel)) (.consF B1.F (i:=0) rfl rfl .nil) (.list (.var (B1.S.cel (i:=0) rfl (F.celIn (i:=2) rfl rfl rfl) _).var)) (by rw [sizeLine_nat]; lia) (fun e2 a2 B2 nm hn=>match a2,B2.len with | [],_=>⟨[some ⟨tStr,nm⟩],[],rfl,(As.loc B2.F (i:=0) rfl (lb rfl)),(by
  have hi5 : i < 5:=by have:=(List.getElem?_eq_some_iff.mp hp).1; lia
  obtain ⟨ag1,_,ag3,_⟩:=ask_fit E hE hi5
  have hg : E.inG.getD i ig0 = g:=Option.some.inj (ag1.symm.trans hp)
  have hsk : ({ st with boxes:=bx } : WS).inn[i]? = some (askIn E i).2:=by
   show st.inn[i]? = _
   rw [hinn]
   have:=updK_get (f:=fun x=>(askIn E x).2) (l:=List.replicate 5 ig1) (k:=5) (i:=i) hi5
   rwa [if_pos hi5] at this
  obtain ⟨y,hy,ey0⟩:=List.getElem_of_mem hn
  have ey : E.names.getD y Str.empty = nm:=by rw [List.getD_eq_getElem?_getD,List.getElem?_eq_getElem hy,ey0]; rfl
  have hk:=hK.kin ((i : Int),(y : Int),1) (by show 0 ≤ (i : Int) ∧ (i : Int) < 5; lia) (by show 0 ≤ (y : Int) ∧ (y : Int) < 5; lia) rfl
  have hk : igNames (E.inG.getD i ig0) (askIn E i).2 none (E.names.getD y Str.empty) = (T ((i : Int),(y : Int),1),(askIn E i).2):=hk
  rw [ey] at hk
  have hnl1:=(hE.nm _ hn).len
  have hcal:=(cod_names (n:=n + 6) hG (g:=E.inG.getD i ig0) (kvs:=(askIn E i).2) (m:=nm) .none ag3).calK
  have hk2 : (igNames (E.inG.getD i ig0) (askIn E i).2 none nm).2 = (askIn E i).2:=by rw [hk]
  rw [hk2,hg] at hcal
  rw [hg]
  exact Ev.meth (mu₁:=VS e2.locals ["name"] [some ⟨tStr,nm⟩] [] [] ++ (VS e1.locals [] [] [c1_0] [some ⟨(tIg G 265),g⟩] ++ (VS env.locals nL [some ⟨tLI,script⟩,some ⟨tLI,row⟩,some ⟨tLI,marks⟩,some ⟨tH,ha⟩,some ⟨tH,la⟩,some ⟨tH,ta⟩,none,none,none,none,none,none,none,some ⟨tLL,ends⟩] [c0,c1,c2,c3,c4,c5,c6,c7,c8,c9,c10,c11] [some ⟨tLP,steps⟩,some ⟨tLL,chains⟩,some ⟨tLS,E.names⟩,some ⟨tLS,E.paths⟩,some ⟨(tList (tIg G 265)),E.inG⟩,some ⟨(tList (tIg G 265)),E.outG⟩,some ⟨tH,ba⟩,none,some ⟨(tList (tTrip tInt tInt tInt)),wishes⟩,some ⟨tLL,reads⟩,some ⟨tLL,stays⟩,some ⟨tLL,alive⟩] ++ lRes G [] E ha la ta ba ({ st with boxes:=bx } : WS)))) (mu₂:=VS e2.locals ["name"] [some ⟨tStr,nm⟩] [] [] ++ (VS e1.locals [] [] [c1_0] [some ⟨(tIg G 265),g⟩] ++ (VS env.locals nL [some ⟨tLI,script⟩,some ⟨tLI,row⟩,some ⟨tLI,marks⟩,some ⟨tH,ha⟩,some ⟨tH,la⟩,some ⟨tH,ta⟩,none,none,none,none,none,none,none,some ⟨tLL,ends⟩] [c0,c1,c2,c3,c4,c5,c6,c7,c8,c9,c10,c11] [some ⟨tLP,steps⟩,some ⟨tLL,chains⟩,some ⟨tLS,E.names⟩,some ⟨tLS,E.paths⟩,some ⟨(tList (tIg G 265)),E.inG⟩,some ⟨(tList (tIg G 265)),E.outG⟩,some ⟨tH,ba⟩,none,some ⟨(tList (tTrip tInt tInt tInt)),wishes⟩,some ⟨tLL,reads⟩,some ⟨tLL,stays⟩,some ⟨tLL,alive⟩] ++ lRes G [] E ha la ta ba ({ st with boxes:=bx } : WS)))) (T:=tIg G 265) (x:=g) (U:=tInt) (ig_G hG) (ig_names hG) (.var (B2.S.cel (i:=0) rfl (B1.F.celIn (i:=0) rfl rfl rfl) _).var) (fun _ _ h=>h) rfl (EvA.cons .noneC (EvA.cons (.var (B2.F.var (i:=0) rfl rfl)) .nil)).toK (CalK.at03 (i:=i + 4) hcal (lRes_inn (st:=({ st with boxes:=bx } : WS)) hp hsk)))⟩)),(by rw [List.range_succ,List.map_append]; rfl)⟩,fun h=>nomatch h⟩)) (.map (T:=tInt) (U:=tLI) (fun x1 : Int=>(List.map (fun x2 : Int=>(if (decide (x1 ∈ (List.getD chains (Int.toNat x2) []))) = true then (1 : Int) else (0 : Int))) (intRange 0 (5 : Int)))) F (csc_of (ln:=[]) (cn:=["d"]) (fn:=["chains"]) (gn:=["range"]) (by decide +kernel)) (.consF F (i:=1) rfl rfl .nil) (.range (.callT (.glb F (i:=6) rfl (g_range hG)) (.cons .intC .nil) cal_range1) (by walk_at "sc") (by walk_at "sc") (by walk_at "sc") (by walk_at "sc")) (by walk_at "sc") (fun e1 a1 B1 x1 h1=>match a1,B1.len with | [c1_0],_=>⟨[],[some ⟨tInt,x1⟩],rfl,(As.cel B1.F (i:=0) rfl rfl (lb rfl)),(.map (T:=tInt) (U:=tInt) (fun x2 : Int=>(if (decide (x1 ∈ (List.getD chains (Int.toNat x2) []))) = true then (1 : Int) else (0 : Int))) B1.F (csc_of (ln:=["u"]) (cn:=[]) (fn:=["chains", "d"]) (gn:=[]) (by decide +kernel)) (.consS B1.S (i:=0) rfl (.consF B1.F (i:=0) rfl rfl .nil)) (.range (.callT (.glb B1.F (i:=0) rfl (g_range hG)) (.cons .intC .nil) cal_range1) (by walk_at "sc") (by walk_at "sc") (by walk_at "sc") (by walk_at "sc")) (by walk_at "sc") (fun e2 a2 B2 x2 h2=>match a2,B2.len with | [],_=>⟨[some ⟨tInt,x2⟩],[],rfl,(As.loc B2.F (i:=0) rfl (lb rfl)),(.ite (.inL (eqTy_int (d:=0)) det_int (.var (B2.S.cel (i:=1) rfl (B1.F.celIn (i:=0) rfl rfl rfl) _).var) (Ev.toL (.idxD (d:=[]) (Ev.toL (.var (B2.S.cel (i:=0) rfl (B1.S.cel (i:=0) rfl (F.celIn (i:=1) rfl rfl rfl) _) _).var)) (.var (B2.F.var (i:=0) rfl rfl)) (by walk_at "sc") (by walk_at "sc")))) (fun hite=>.intC) (fun hite=>.intC))⟩))⟩))) ?hfin) (dropVS.trans (Wk.sub (.cons _ (.cons _ (.cons _ (.cons _ ((List.sublist_append_right _ _).trans (List.sublist_append_right _ _))))))))
 case hz=>rw [List.length_map,List.length_range,sizeLine_nat]; lia
 case hfin =>
  refine decide_eq_true ?_
  rw [hil]
  exact hL.fin
end
noncomputable def lawG (w : World) (s : Shared) (mc mb : Str → Option Value) (so : Obj) : Gl:=⟨PW,w,s.heap,288,s.os,mc,mb,so,false,KF w.params⟩
theorem lookup_mem {fr : Frag} {a : Addr} {o : Obj} (h : fr.lookup a = some o) : a ∈ fr.map (·.1):=by
 induction fr with
 | nil=>cases h
 | cons p fr ih =>
  rw [List.map_cons]
  by_cases e : a = p.1
  ·subst e; exact List.mem_cons_self
  ·refine List.mem_cons_of_mem _ (ih ?_)
   obtain ⟨b,o'⟩:=p
   rw [List.lookup_cons,show (a == b) = false from beq_eq_false_iff_ne.mpr e] at h
   exact h
theorem KA_ok : KA.all (fun a=>!(a == 288) && !(a == cStatics)) = true:=by decide +kernel
theorem main_of {w : World} {s₁ : Shared} {mg mb : Str → Option Value} {fa a P0 : Addr} {vs : List Value} {script : List Int} (KX : InK KF w s₁.heap ∧ (s₁.heap.get? sysModules).isSome = true)
  (hgs : s₁.heap.Ns mainGlobals mg) (hbs : s₁.heap.Ns builtinsNs mb) (hlim : s₁.heap.NoLimit) (hbt : ∀ x : Str,x ≠ "__name__" → mb x = bootBuiltins x)
  (hbm : ∃ bm ob,mg "__builtins__" = some (.ref bm) ∧ bm ≠ builtinsNs ∧ s₁.heap.get? bm = some ob ∧ ob.cls = .type "module" ∧ ob.dict = some builtinsNs ∧ ob.data = .plain)
  (hB : Based s₁.heap s₁.heap 290 P0 #[]) (hga : s₁.gens = #[]) (hmg : mg "law" = some (.ref fa)) (hl : s₁.heap.get? a = some (listO vs 0)) (hI : IntsAre vs script)
  (hlaw : ∀ (G : Gl),TopOk G → G.TB = 288 → ∀ (env : Env) (ca : List Addr),FEnv env nL nC ca nG → ca.length = (nC : List Str).length → Ex G 20 env (VS env.locals nL [some ⟨tLI,script⟩,none,none,none,none,none,none,none,none,none,none,none,none,none] ca (blank (nC : List Str).length) ++ [rTab 288 ⟨236,30,236,52⟩]) (defBody (topSt 28)) (fOutP G (fun K v mu'=>mu' = [rTab 288 ⟨236,30,236,52⟩] ∧ tBool.rel K v true))) :
  wpAny (model PW w) callerA (call (.ref fa) [.ref a]) (fun v s'=>v = .bool true ∧ OldK s₁.heap s'.heap ∧ s'.os = s₁.os ∧ s'.gens = #[]) noE s₁:=by
 obtain ⟨KX,hsys⟩:=KX
 have KX : (KF w.params).In s₁.heap:=KX
 obtain ⟨mc,hmc,hnl⟩:=hlim
 obtain ⟨so,hso,-⟩:=of_ns hmc
 have hP0 : P0 = 288:=by
  obtain ⟨⟨o,vs',e1,e2,e3,e4⟩,_⟩:=hB.tab
  rw [KX 290 (ob290 w.params) (by kernel_rfl)] at e1
  cases e1
  have e3 : Data.fields _ = Data.fields vs':=e3
  injection e3 with e3
  subst e3
  have e4 : some (Value.ref 288) = some (Value.ref P0):=e4
  injection e4 with e4
  injection e4 with e4
  exact e4.symm
 subst hP0
 have htab:=hB.tab.2
 have hfa : fa = 313:=by
  have:=mg_of (n:="law") (v:=.ref 313) KX hgs (by kernel_rfl)
  rw [hmg] at this
  injection this with e
  injection e
 subst hfa
 have hne : ∀ a' o',(KF w.params).lookup a' = some o' → a' ≠ 288 ∧ a' ≠ cStatics:=fun a' o' e=>by
  have h1:=lookup_mem e
  have h2 : (KF w.params).map (·.1) = KA:=by kernel_rfl
  rw [h2] at h1
  have:=List.all_eq_true.mp KA_ok a' h1
  simp only [Bool.and_eq_true,Bool.not_eq_true',beq_eq_false_iff_ne] at this
  exact this
 have hG : TopOk (lawG w s₁ mc mb so):=by
  refine ⟨⟨hnl,rfl,by show (288 : Nat) ≠ 3; decide,by show (288 : Nat) ≠ 0; decide,⟨Option.isSome_iff_exists.mp hsys,by show (1 : Nat) ≠ 288; decide,by decide⟩,fun a' o' e=>⟨hne a' o' e,KX a' o' e⟩⟩,rfl,rfl,⟨mg,mb,hgs,hbs,hbt⟩,?_⟩
  obtain ⟨bm,ob,e1,e2,e3,e4,e5,e6⟩:=hbm
  refine ⟨mg,bm,ob,hgs,e1,e2,fun e=>?_,fun e=>?_,e3,e4,e5,e6⟩
  ·have e : bm = 288:=e
   subst e
   rw [htab] at e3; cases e3
   cases e6
  ·subst e
   obtain ⟨o,es,ep,q1,q2,-⟩:=hmc
   rw [q1] at e3; cases e3
   rw [q2] at e6; cases e6
 have hGM : (lawG w s₁ mc mb so).M = model PW w:=rfl
 let K0 : KH:=fun b=>if b = 288 ∨ b = cStatics then none else s₁.heap.get? b
 have hK0 : ∀ {b : Addr} {o : Obj},b ≠ 288 → b ≠ cStatics → s₁.heap.get? b = some o → K0 b = some o:=fun {b o} h1 h2 h3=>by
  show (if _ then _ else _) = _
  rw [if_neg (fun h=>h.elim h1 h2)]; exact h3
 have hna : a ≠ 288:=fun e=>by rw [e,htab] at hl; cases hl
 have hnc : a ≠ cStatics:=fun e=>by
  obtain ⟨o,es,ep,q1,q2,-⟩:=hmc
  rw [e,q1] at hl; cases hl
  cases q2
 have hown : Own (lawG w s₁ mc mb so).chill K0 [rTab 288 ⟨236,30,236,52⟩] s₁:=by
  refine ⟨fun b o e=>?_,fun b o h1 h2 h3=>hK0 h1 h2 h3,fun r hr=>?_,fun r hr=>?_,?_,hga,rfl,(fun h=>nomatch h),⟨hmc,hso⟩,if_pos (.inr rfl),?_⟩
  ·have e : (if _ then _ else _) = _:=e
   split at e
   ·cases e
   ·exact e
  ·rw [List.mem_singleton.mp hr]
   exact ⟨_,htab,#[],rfl,trivial,.inl rfl⟩
  ·rw [List.mem_singleton.mp hr]
   exact ⟨if_pos (.inl rfl),by decide⟩
  ·exact List.nodup_cons.mpr ⟨by simp,.nil⟩
  ·obtain ⟨o,es,ep,e,q⟩:=hbs
   exact ⟨o,es,ep,hK0 (by decide) (by decide) e,q⟩
 refine wpAny_call (fn_runW (n:=20) (T:=tList tInt) (x:=script) (nm:="script") (v:=.ref a) (i:=0) (P:=fun K v mu'=>mu' = [rTab 288 ⟨236,30,236,52⟩] ∧ tBool.rel K v true) (ok_law hG) ⟨rfl,by decide,by decide⟩ hown (by rw [bindF_eq]; kernel_rfl) ⟨a,vs,0,rfl,hK0 hna hnc hl,ints_all2 hI⟩ rfl (fun env ca F hl hc=>hlaw _ hG rfl env ca F hl) fun K' mu' v s' hle ho ⟨e1,e2⟩=>?_)
 subst e1
 refine ⟨e2,⟨fun b o e=>?_,fun b o e=>?_⟩,ho.os,ho.gens⟩
 ·by_cases h1 : b = 288
  ·subst h1
   rw [htab] at e; cases e
   obtain ⟨o',q1,ps,rfl,-⟩:=ho.led _ List.mem_cons_self
   refine .inr (.inl ⟨hB.tab.isCodeTable,rfl,#[],ps,rfl,?_⟩)
   rw [Array.empty_append]
   exact q1
  ·by_cases h2 : b = cStatics
   ·subst h2
    rw [hso] at e; cases e
    exact .inl ho.st.2
   ·exact .inl (ho.k _ _ (hle _ _ (hK0 h1 h2 e)))
 ·by_cases h1 : b = 288
  ·subst h1
   obtain ⟨o',q1,-⟩:=ho.led _ List.mem_cons_self
   exact ⟨o',q1⟩
  ·by_cases h2 : b = cStatics
   ·subst h2
    exact ⟨_,ho.st.2⟩
   ·exact ⟨o,ho.k _ _ (hle _ _ (hK0 h1 h2 e))⟩
section
variable {S : Int → Int → Prop}
inductive Rch (S : Int → Int → Prop) (x : Int) : Int → Prop
 | base : (0 : Int) ≠ x → Rch S x 0
 | step {u v : Int} : Rch S x u → S u v → v ≠ x → Rch S x v
structure Gr (S : Int → Int → Prop) : Prop where
 edge : ∀ {u v},S u v → (0 ≤ u ∧ u < 5) ∧ (1 ≤ v ∧ v < 5)
 tree : ∀ v,1 ≤ v → v < 5 → ∃ u,0 ≤ u ∧ u < v ∧ S u v
theorem Rch.ne {x v : Int} (h : Rch S x v) : v ≠ x:=by
 cases h with
 | base h=>exact h
 | step _ _ h=>exact h
theorem not_self (x : Int) : ¬ Rch S x x:=fun h=>h.ne rfl
theorem Gr.low (G : Gr S) {x : Int} : ∀ (k : Nat) (v : Int),0 ≤ v → v < 5 → v.toNat ≤ k → v < x ∨ x < 0 → Rch S x v
 | 0,v,h0,h5,hk,hx=>by
  have : v = 0:=by lia
  subst this
  exact .base (by lia)
 | k + 1,v,h0,h5,hk,hx=>by
  by_cases hv : v = 0
  ·subst hv; exact .base (by lia)
  ·obtain ⟨u,a,b,c⟩:=G.tree v (by lia) h5
   exact .step (Gr.low G k u a (by lia) (by lia) (by lia)) c (by lia)
theorem Gr.below (G : Gr S) {x v : Int} (h0 : 0 ≤ v) (h5 : v < 5) (h : v < x) : Rch S x v:=G.low _ v h0 h5 (Nat.le_refl _) (.inl h)
theorem Gr.all (G : Gr S) {v : Int} (h0 : 0 ≤ v) (h5 : v < 5) : Rch S (-1) v:=G.low _ v h0 h5 (Nat.le_refl _) (.inr (by lia))
theorem Gr.dom_le (G : Gr S) {x v : Int} (h0 : 0 ≤ v) (h5 : v < 5) (h : ¬ Rch S x v) : x ≤ v:=by
 apply Classical.byContradiction
 intro hn
 exact h (G.below h0 h5 (by lia))
theorem Gr.dom_zero (G : Gr S) (v : Int) : ¬ Rch S 0 v:=fun h=>by
 induction h with
 | base h=>exact h rfl
 | step _ _ _ ih=>exact ih
theorem dom_trans {x y v : Int} (h : Rch S y v) : Rch S x v ∨ Rch S y x:=by
 induction h with
 | base h =>
  by_cases e : (0 : Int) = x
  ·subst e; exact .inr (.base h)
  ·exact .inl (.base e)
 | @step u v hu e hv ih =>
  rcases ih with ih | ih
  ·by_cases q : v = x
   ·subst q; exact .inr (.step hu e hv)
   ·exact .inl (.step ih e q)
  ·exact .inr ih
theorem dom_line {x y v : Int} (hv : Rch S (-1) v) (h1 : Rch S x y) (h2 : Rch S y x) : Rch S x v ∨ Rch S y v:=by
 induction hv with
 | base _ =>
  by_cases e : (0 : Int) = x
  ·subst e; exact .inr h2
  ·exact .inl (.base e)
 | @step u v hu e hv ih =>
  by_cases q : v = x
  ·subst q; exact .inr h2
  ·by_cases q' : v = y
   ·subst q'; exact .inl h1
   ·rcases ih with ih | ih
    ·exact .inl (.step ih e q)
    ·exact .inr (.step ih e q')
theorem Gr.dom_lt (G : Gr S) {x y v : Int} (h0 : 0 ≤ v) (h5 : v < 5) (hx : ¬ Rch S x v) (hy : ¬ Rch S y v) (hx0 : 0 ≤ x) (h : x < y) : ¬ Rch S x y:=fun h1=>by
 have hy5:=G.dom_le h0 h5 hy
 rcases dom_line (G.all h0 h5) h1 (G.below hx0 (by lia) h) with q | q
 ·exact hx q
 ·exact hy q
variable {M : Int → Prop}
variable {J : Int → Prop}
end
noncomputable def ind (i : Int) (c : List Int) : Nat:=if i ∈ c then 1 else 0
noncomputable def cnt (c : List Int) : Nat:=ind 0 c + ind 1 c + ind 2 c + ind 3 c + ind 4 c
theorem ind_le {i : Int} {c c' : List Int} (h : i ∈ c → i ∈ c') : ind i c ≤ ind i c':=by
 unfold ind
 by_cases q : i ∈ c
 ·rw [if_pos q,if_pos (h q)]; exact Nat.le_refl _
 ·rw [if_neg q]; exact Nat.zero_le _
theorem ind_one (i : Int) (c : List Int) : ind i c ≤ 1:=by unfold ind; split <;> decide
theorem cnt_lt {c c' : List Int} (h : ∀ v,v ∈ c → v ∈ c') {v : Int} (h0 : 0 ≤ v ∧ v < 5) (h1 : v ∉ c) (h2 : v ∈ c') : cnt c + 1 ≤ cnt c':=by
 have e1 : ind v c = 0:=if_neg h1
 have e2 : ind v c' = 1:=if_pos h2
 have a0:=ind_le (h 0)
 have a1:=ind_le (h 1)
 have a2:=ind_le (h 2)
 have a3:=ind_le (h 3)
 have a4:=ind_le (h 4)
 have : v = 0 ∨ v = 1 ∨ v = 2 ∨ v = 3 ∨ v = 4:=by lia
 unfold cnt
 rcases this with rfl | rfl | rfl | rfl | rfl <;> lia
theorem cnt_full {c : List Int} (h : 5 ≤ cnt c) {v : Int} (h0 : 0 ≤ v ∧ v < 5) : v ∈ c:=by
 apply Classical.byContradiction
 intro hn
 have e1 : ind v c = 0:=if_neg hn
 have a0:=ind_one 0 c
 have a1:=ind_one 1 c
 have a2:=ind_one 2 c
 have a3:=ind_one 3 c
 have a4:=ind_one 4 c
 have : v = 0 ∨ v = 1 ∨ v = 2 ∨ v = 3 ∨ v = 4:=by lia
 unfold cnt at h
 rcases this with rfl | rfl | rfl | rfl | rfl <;> lia
theorem grow_closed {R : Int → Int → Prop} (c : Nat → List Int) (hs : ∀ k v,v ∈ c (k + 1) ↔ v ∈ c k ∨ ∃ u ∈ c k,R u v) (hR : ∀ u v,R u v → 0 ≤ v ∧ v < 5) (h0 : ∀ v ∈ c 0,0 ≤ v ∧ v < 5) : ∀ u v,u ∈ c 4 → R u v → v ∈ c 4:=by
 by_cases hne : ∃ w,w ∈ c 0
 ·obtain ⟨w,hw⟩:=hne
  have mono : ∀ k v,v ∈ c k → v ∈ c (k + 1):=fun k v h=>(hs k v).mpr (.inl h)
  have key : ∀ k,(∀ u v,u ∈ c k → R u v → v ∈ c k) ∨ k + 1 ≤ cnt (c k):=by
   intro k
   induction k with
   | zero =>
    right
    have e2 : ind w (c 0) = 1:=if_pos hw
    have : w = 0 ∨ w = 1 ∨ w = 2 ∨ w = 3 ∨ w = 4:=by have:=h0 w hw; lia
    unfold cnt
    rcases this with rfl | rfl | rfl | rfl | rfl <;> lia
   | succ k ih =>
    by_cases hc : ∀ u v,u ∈ c k → R u v → v ∈ c k
    ·left
     intro u v hu e
     have back : ∀ x,x ∈ c (k + 1) → x ∈ c k:=fun x hx=>by
      rcases (hs k x).mp hx with h | ⟨y,hy,e⟩
      ·exact h
      ·exact hc y x hy e
     exact mono k v (hc u v (back u hu) e)
    ·rcases ih with ih | ih
     ·exact absurd ih hc
     ·right
      have : ∃ u v,u ∈ c k ∧ R u v ∧ v ∉ c k:=by
       apply Classical.byContradiction
       intro hn
       refine hc fun u v hu e=>?_
       apply Classical.byContradiction
       intro hv
       exact hn ⟨u,v,hu,e,hv⟩
      obtain ⟨u,v,hu,e,hv⟩:=this
      have:=cnt_lt (mono k) (hR u v e) hv ((hs k v).mpr (.inr ⟨u,hu,e⟩))
      lia
  rcases key 4 with h | h
  ·exact h
  ·exact fun u v _ e=>cnt_full h (hR u v e)
 ·have : ∀ k v,v ∉ c k:=by
   intro k
   induction k with
   | zero=>exact fun v hv=>hne ⟨v,hv⟩
   | succ k ih =>
    intro v hv
    rcases (hs k v).mp hv with h | ⟨u,hu,_⟩
    ·exact ih v h
    ·exact ih u hu
  exact fun u v hu _=>absurd hu (this 4 u)
noncomputable abbrev Sof (steps : List (Int × Int)) (u v : Int) : Prop:=(u,v) ∈ steps
theorem come_step (steps : List (Int × Int)) (shut : Int) (k : Nat) (v : Int) : v ∈ lcCome steps shut (k + 1) ↔ v ∈ lcCome steps shut k ∨ ∃ u ∈ lcCome steps shut k,(u,v) ∈ steps ∧ v ≠ shut:=by
 show v ∈ (lcCome steps shut k ++ List.map _ (List.filter _ steps)) ↔ _
 rw [List.mem_append,List.mem_map]
 constructor
 ·rintro (h | ⟨p,hp,rfl⟩)
  ·exact .inl h
  ·obtain ⟨h1,h2⟩:=List.mem_filter.mp hp
   simp only [Bool.and_eq_true,decide_eq_true_eq,Bool.not_eq_true',decide_eq_false_iff_not] at h2
   exact .inr ⟨p.1,h2.1,h1,h2.2.1⟩
 ·rintro (h | ⟨u,h1,h2,h3⟩)
  ·exact .inl h
  ·by_cases q : v ∈ lcCome steps shut k
   ·exact .inl q
   ·refine .inr ⟨(u,v),List.mem_filter.mpr ⟨h2,?_⟩,rfl⟩
    simp only [Bool.and_eq_true,decide_eq_true_eq,Bool.not_eq_true',decide_eq_false_iff_not]
    exact ⟨h1,h3,q,trivial⟩
theorem come_zero (steps : List (Int × Int)) {shut : Int} (h : 0 ≤ shut) (v : Int) : v ∈ lcCome steps shut 0 ↔ v = 0 ∧ 0 ≠ shut:=by
 show v ∈ pySlice [(0 : Int)] none (some shut) ↔ _
 rw [pySlice_upto _ _ h]
 by_cases q : shut = 0
 ·subst q; simp
 ·obtain ⟨k,hk⟩ : ∃ k,shut.toNat = k + 1:=⟨shut.toNat - 1,by lia⟩
  rw [hk,List.take_succ_cons,List.take_nil,List.mem_singleton]
  exact ⟨fun e=>⟨e,fun e=>q e.symm⟩,fun e=>e.1⟩
theorem come_rch {steps : List (Int × Int)} (G : Gr (Sof steps)) {shut : Int} (h : 0 ≤ shut) (v : Int) : v ∈ lcCome steps shut 4 ↔ Rch (Sof steps) shut v:=by
 constructor
 ·have : ∀ k v,v ∈ lcCome steps shut k → Rch (Sof steps) shut v:=by
   intro k
   induction k with
   | zero=>exact fun v hv=>by obtain ⟨e,hne⟩:=(come_zero steps h v).mp hv; subst e; exact .base hne
   | succ k ih =>
    intro v hv
    rcases (come_step steps shut k v).mp hv with q | ⟨u,hu,e,hne⟩
    ·exact ih v q
    ·exact .step (ih u hu) e hne
  exact this 4 v
 ·intro hr
  have hcl:=grow_closed (R:=fun u v=>(u,v) ∈ steps ∧ v ≠ shut) (lcCome steps shut) (fun k v=>come_step steps shut k v) (fun u v e=>by have:=(G.edge e.1).2; lia) (fun v hv=>by obtain ⟨e,_⟩:=(come_zero steps h v).mp hv; subst e; decide)
  have mono : ∀ k v,v ∈ lcCome steps shut k → v ∈ lcCome steps shut (k + 1):=fun k v h=>(come_step steps shut k v).mpr (.inl h)
  induction hr with
  | base hne=>exact mono 3 _ (mono 2 _ (mono 1 _ (mono 0 _ ((come_zero steps h 0).mpr ⟨rfl,hne⟩))))
  | step _ e hne ih=>exact hcl _ _ ih ⟨e,hne⟩
noncomputable def chn (steps : List (Int × Int)) (v : Int) : List Int:=(lcOver (lcFound steps)).getD v.toNat []
theorem range5 : intRange 0 5 = [0,1,2,3,4]:=by decide
theorem getD_range {α : Type} (f : Int → α) (d : α) {v : Int} (h : 0 ≤ v ∧ v < 5) : ((intRange 0 5).map f).getD v.toNat d = f v:=by
 rw [range5]
 have : v = 0 ∨ v = 1 ∨ v = 2 ∨ v = 3 ∨ v = 4:=by lia
 rcases this with rfl | rfl | rfl | rfl | rfl <;> rfl
theorem found_get (steps : List (Int × Int)) {d : Int} (h : 0 ≤ d ∧ d < 5) : (lcFound steps).getD d.toNat [] = lcCome steps d 4:=getD_range _ _ h
theorem chn_eq (steps : List (Int × Int)) {v : Int} (h : 0 ≤ v ∧ v < 5) : chn steps v = (intRange 0 5).filter fun d=>decide (d = v) || !decide (v ∈ lcCome steps d 4):=by
 unfold chn lcOver
 rw [getD_range _ _ h,List.map_id']
 refine List.filter_congr fun d hd=>?_
 rw [found_get _ (mem_intRange.mp hd),Bool.or_false]
theorem mem_chn {steps : List (Int × Int)} (G : Gr (Sof steps)) {v : Int} (h : 0 ≤ v ∧ v < 5) (d : Int) : d ∈ chn steps v ↔ (0 ≤ d ∧ d < 5) ∧ ¬ Rch (Sof steps) d v:=by
 rw [chn_eq _ h,List.mem_filter,mem_intRange]
 constructor
 ·rintro ⟨hd,hb⟩
  refine ⟨hd,fun hr=>?_⟩
  simp only [Bool.or_eq_true,decide_eq_true_eq,Bool.not_eq_true',decide_eq_false_iff_not] at hb
  rcases hb with e | e
  ·exact hr.ne e.symm
  ·exact e ((come_rch G hd.1 v).mpr hr)
 ·rintro ⟨hd,hn⟩
  refine ⟨hd,?_⟩
  simp only [Bool.or_eq_true,decide_eq_true_eq,Bool.not_eq_true',decide_eq_false_iff_not]
  exact .inr fun e=>hn ((come_rch G hd.1 v).mp e)
theorem chn_self {steps : List (Int × Int)} (G : Gr (Sof steps)) {v : Int} (h : 0 ≤ v ∧ v < 5) : v ∈ chn steps v:=(mem_chn G h v).mpr ⟨h,not_self v⟩
theorem chn_zero {steps : List (Int × Int)} (G : Gr (Sof steps)) {v : Int} (h : 0 ≤ v ∧ v < 5) : (0 : Int) ∈ chn steps v:=(mem_chn G h 0).mpr ⟨by decide,G.dom_zero v⟩
theorem chn_le {steps : List (Int × Int)} (G : Gr (Sof steps)) {v d : Int} (h : 0 ≤ v ∧ v < 5) (hd : d ∈ chn steps v) : d ≤ v:=G.dom_le h.1 h.2 ((mem_chn G h d).mp hd).2
theorem chn_sub {steps : List (Int × Int)} (G : Gr (Sof steps)) {v x : Int} (h : 0 ≤ v ∧ v < 5) (hx : x ∈ chn steps v) (d : Int) : d ∈ chn steps x ↔ d ∈ chn steps v ∧ d ≤ x:=by
 obtain ⟨hx5,hxv⟩:=(mem_chn G h x).mp hx
 rw [mem_chn G hx5,mem_chn G h]
 constructor
 ·rintro ⟨hd,hn⟩
  refine ⟨⟨hd,fun hr=>?_⟩,G.dom_le hx5.1 hx5.2 hn⟩
  rcases dom_trans (x:=x) hr with q | q
  ·exact hxv q
  ·exact hn q
 ·rintro ⟨⟨hd,hn⟩,hle⟩
  refine ⟨hd,?_⟩
  by_cases e : d = x
  ·subst e; exact not_self d
  ·exact G.dom_lt h.1 h.2 hn hxv hd.1 (by lia)
theorem range_split {x : Int} (h : 0 ≤ x ∧ x < 5) : intRange 0 5 = intRange 0 (x + 1) ++ intRange (x + 1) 5:=by
 have : x = 0 ∨ x = 1 ∨ x = 2 ∨ x = 3 ∨ x = 4:=by lia
 rcases this with rfl | rfl | rfl | rfl | rfl <;> decide
theorem filter_none {α : Type} {p : α → Bool} {l : List α} (h : ∀ a ∈ l,p a = false) : l.filter p = []:=by
 rw [List.filter_eq_nil_iff]
 intro a ha
 rw [h a ha]; decide
theorem chn_filter {steps : List (Int × Int)} (G : Gr (Sof steps)) {v : Int} (h : 0 ≤ v ∧ v < 5) : chn steps v = (intRange 0 5).filter fun d=>decide (d ∈ chn steps v):=by
 conv=>lhs; rw [chn_eq _ h]
 refine List.filter_congr fun d hd=>?_
 rw [Bool.eq_iff_iff,decide_eq_true_eq,chn_eq _ h,List.mem_filter]
 exact ⟨fun e=>⟨hd,e⟩,fun e=>e.2⟩
theorem chn_split {steps : List (Int × Int)} (G : Gr (Sof steps)) {v x : Int} (h : 0 ≤ v ∧ v < 5) (hx : x ∈ chn steps v) : chn steps v = chn steps x ++ (intRange (x + 1) 5).filter fun d=>decide (d ∈ chn steps v):=by
 have hx5:=((mem_chn G h x).mp hx).1
 conv=>lhs; rw [chn_filter G h,range_split hx5,List.filter_append]
 congr 1
 rw [chn_filter G hx5]
 conv=>rhs; rw [range_split hx5,List.filter_append]
 rw [filter_none (l:=intRange (x + 1) 5) (p:=fun d=>decide (d ∈ chn steps x)),List.append_nil]
 ·refine List.filter_congr fun d hd=>?_
  rw [Bool.eq_iff_iff,decide_eq_true_eq,decide_eq_true_eq,chn_sub G h hx]
  have:=(mem_intRange.mp hd).2
  exact ⟨fun e=>⟨e,by lia⟩,fun e=>e.1⟩
 ·intro d hd
  rw [decide_eq_false_iff_not,chn_sub G h hx]
  have:=(mem_intRange.mp hd).1
  exact fun e=>by lia
theorem chn_prefix {steps : List (Int × Int)} (G : Gr (Sof steps)) {v x : Int} (h : 0 ≤ v ∧ v < 5) (hx : 0 ≤ x ∧ x < 5) : chn steps x <+: chn steps v ↔ x ∈ chn steps v:=by
 constructor
 ·rintro ⟨r,e⟩
  rw [← e]
  exact List.mem_append_left _ (chn_self G hx)
 ·intro hm
  exact ⟨_,(chn_split G h hm).symm⟩
theorem chn_snoc {steps : List (Int × Int)} (G : Gr (Sof steps)) {v : Int} (h : 0 ≤ v ∧ v < 5) : chn steps v = ((intRange 0 v).filter fun d=>decide (d ∈ chn steps v)) ++ [v]:=by
 conv=>lhs; rw [chn_filter G h,range_split h,List.filter_append]
 rw [filter_none (l:=intRange (v + 1) 5),List.append_nil]
 ·have e : intRange 0 (v + 1) = intRange 0 v ++ [v]:=by
   have : v = 0 ∨ v = 1 ∨ v = 2 ∨ v = 3 ∨ v = 4:=by lia
   rcases this with rfl | rfl | rfl | rfl | rfl <;> decide
  rw [e,List.filter_append]
  congr 1
  rw [List.filter_cons,if_pos (decide_eq_true (chn_self G h)),List.filter_nil]
 ·intro d hd
  rw [decide_eq_false_iff_not]
  intro hm
  have:=chn_le G h hm
  have:=(mem_intRange.mp hd).1
  lia
theorem chn_inj {steps : List (Int × Int)} (G : Gr (Sof steps)) {v x : Int} (h : 0 ≤ v ∧ v < 5) (hx : 0 ≤ x ∧ x < 5) (e : chn steps x = chn steps v) : x = v:=by
 rw [chn_snoc G h,chn_snoc G hx] at e
 have:=congrArg List.getLast? e
 rw [List.getLast?_concat,List.getLast?_concat] at this
 exact Option.some.inj this
noncomputable def bitL (b0 b1 b2 b3 b4 : Bool) : List Int:=(if b0 then [0] else []) ++ ((if b1 then [1] else []) ++ ((if b2 then [2] else []) ++ ((if b3 then [3] else []) ++ (if b4 then [4] else []))))
theorem filter5 (p : Int → Bool) : (intRange 0 5).filter p = bitL (p 0) (p 1) (p 2) (p 3) (p 4):=by
 rw [range5]
 unfold bitL
 simp only [List.filter_cons,List.filter_nil]
 cases p 0 <;> cases p 1 <;> cases p 2 <;> cases p 3 <;> cases p 4 <;> rfl
theorem bitL_all : ∀ v ∈ ([0,1,2,3,4] : List Int),∀ b1 b2 b3 b4 : Bool,(b1 = true → 1 ≤ v) → (b2 = true → 2 ≤ v) → (b3 = true → 3 ≤ v) → (b4 = true → 4 ≤ v) → (v = 1 → b1 = true) → (v = 2 → b2 = true) → (v = 3 → b3 = true) → (v = 4 → b4 = true) → bitL true b1 b2 b3 b4 ∈ allChains:=by decide +kernel
theorem chn_mem {steps : List (Int × Int)} (G : Gr (Sof steps)) {v : Int} (h : 0 ≤ v ∧ v < 5) : chn steps v ∈ allChains:=by
 rw [chn_filter G h,filter5]
 have e0 : decide ((0 : Int) ∈ chn steps v) = true:=decide_eq_true (chn_zero G h)
 rw [e0]
 have hs:=chn_self G h
 refine bitL_all v ?_ _ _ _ _ (fun e=>chn_le G h (of_decide_eq_true e)) (fun e=>chn_le G h (of_decide_eq_true e)) (fun e=>chn_le G h (of_decide_eq_true e)) (fun e=>chn_le G h (of_decide_eq_true e)) (fun e=>decide_eq_true ?_) (fun e=>decide_eq_true ?_) (fun e=>decide_eq_true ?_) (fun e=>decide_eq_true ?_)
 ·rw [← range5]; exact mem_intRange.mpr h
 all_goals (rw [e] at hs ⊢; exact hs)
theorem over_len (steps : List (Int × Int)) : (lcOver (lcFound steps)).length = 5:=by unfold lcOver; rw [List.length_map,intRange_len]; rfl
theorem over_eq (steps : List (Int × Int)) : lcOver (lcFound steps) = (intRange 0 5).map (chn steps):=by
 apply List.ext_getElem
 ·rw [over_len,List.length_map,intRange_len]; rfl
 ·intro i h1 h2
  rw [over_len] at h1
  have e:=getD_range (chn steps) [] (v:=(i : Int)) (by lia)
  have e1 : chn steps (i : Int) = (lcOver (lcFound steps)).getD i []:=rfl
  rw [e1] at e
  have e2 : ((i : Int)).toNat = i:=rfl
  rw [e2,List.getD_eq_getElem?_getD,List.getD_eq_getElem?_getD,List.getElem?_eq_getElem h2,List.getElem?_eq_getElem (by rw [over_len]; exact h1)] at e
  exact e.symm
theorem mem_over {steps : List (Int × Int)} {c : List Int} (h : c ∈ lcOver (lcFound steps)) : ∃ v,(0 ≤ v ∧ v < 5) ∧ c = chn steps v:=by
 rw [over_eq] at h
 obtain ⟨v,hv,rfl⟩:=List.mem_map.mp h
 exact ⟨v,mem_intRange.mp hv,rfl⟩
theorem lc_fit {steps : List (Int × Int)} (G : Gr (Sof steps)) (hl : steps.length ≤ 1000) : LcFit steps:=by
 refine ⟨hl,fun chain hc=>?_⟩
 obtain ⟨v,hv,rfl⟩:=mem_over hc
 rw [chn_filter G hv]
 refine List.Pairwise.filter _ ?_ |>.imp_of_mem ?_ (R:=fun a b : Int=>a < b)
 ·rw [range5]; decide
 ·intro a b ha hb hlt
  have ha:=of_decide_eq_true (List.mem_filter.mp ha).2
  have hb:=of_decide_eq_true (List.mem_filter.mp hb).2
  have hb5:=((mem_chn G hv b).mp hb).1
  have hab : a ∈ chn steps b:=(chn_sub G hv hb a).mpr ⟨ha,by lia⟩
  have:=chn_split G hb5 hab
  unfold lcKey
  show (((chn steps a).length : Nat) : Int) < (((chn steps b).length : Nat) : Int)
  rw [this,List.length_append]
  have hm : b ∈ (intRange (a + 1) 5).filter fun d=>decide (d ∈ chn steps b):=List.mem_filter.mpr ⟨mem_intRange.mpr (by lia),decide_eq_true (chn_self G hb5)⟩
  have:=List.length_pos_of_mem hm
  lia
noncomputable def pre2 (c' c : List Int) : Bool:=c'.isPrefixOf c
noncomputable def pairChk (c c' : List Int) : Bool :=
 (Txt.startswith (nameOf c) (nameOf c' ++ ".") == (pre2 c' c && !decide (c' = c))) && (Txt.startswith (pathOf (nameOf c)) (pathOf (nameOf c') ++ "/") == (pre2 c' c && !decide (c' = c))) &&
 (Txt.startswith (pathOf (nameOf c) ++ "/o") (pathOf (nameOf c') ++ "/") == pre2 c' c) && (decide (nameOf c = nameOf c') == decide (c = c'))
noncomputable def oneChk (c : List Int) : Bool :=
 (Txt.startswith ("/" : Str) (pathOf (nameOf c) ++ "/") == false) && decide (modnameP (pathOf (nameOf c)) = lawCall (c.getLastD 0) 0) && decide (lastOf (nameOf c) = lawCall (c.getLastD 0) 0) && (decide (c.length < 2) || decide (modnameP (("/" : Str) ++ nameOf c) = nameOf c.dropLast))
theorem one_all : allChains.all oneChk = true:=by decide +kernel
theorem pair_all : (allChains.all fun c=>allChains.all fun c'=>pairChk c c') = true:=by decide +kernel
noncomputable def gN (steps : List (Int × Int)) (v : Int) : Str:=nameOf (chn steps v)
section
variable {steps : List (Int × Int)} {v x y : Int}
theorem getLastD_concat {α : Type} (l : List α) (a d : α) : (l ++ [a]).getLastD d = a:=by
 cases l with
 | nil=>rfl
 | cons b l =>
  show (b :: (l ++ [a])).getLastD d = a
  rw [List.getLastD_cons]
  induction l generalizing b with
  | nil=>rfl
  | cons c l ih =>
   show (c :: (l ++ [a])).getLastD b = a
   rw [List.getLastD_cons]
   exact ih c
theorem chn_last (G : Gr (Sof steps)) (h : 0 ≤ v ∧ v < 5) : (chn steps v).getLastD 0 = v:=by rw [chn_snoc G h]; exact getLastD_concat _ _ _
theorem pre2_eq (G : Gr (Sof steps)) (h : 0 ≤ v ∧ v < 5) (hx : 0 ≤ x ∧ x < 5) : pre2 (chn steps x) (chn steps v) = decide (x ∈ chn steps v):=by
 unfold pre2
 rw [Bool.eq_iff_iff,List.isPrefixOf_iff_prefix,decide_eq_true_eq]
 exact chn_prefix G h hx
theorem chn_eqv (G : Gr (Sof steps)) (h : 0 ≤ v ∧ v < 5) (hx : 0 ≤ x ∧ x < 5) : decide (chn steps x = chn steps v) = decide (x = v):=by
 rw [Bool.eq_iff_iff,decide_eq_true_eq,decide_eq_true_eq]
 exact ⟨chn_inj G h hx,fun e=>by rw [e]⟩
theorem pair_at (G : Gr (Sof steps)) (h : 0 ≤ v ∧ v < 5) (hx : 0 ≤ x ∧ x < 5) :
  Txt.startswith (gN steps v) (gN steps x ++ ".") = (decide (x ∈ chn steps v) && !decide (x = v)) ∧
  Txt.startswith (pathOf (gN steps v)) (pathOf (gN steps x) ++ "/") = (decide (x ∈ chn steps v) && !decide (x = v)) ∧
  Txt.startswith (pathOf (gN steps v) ++ "/o") (pathOf (gN steps x) ++ "/") = decide (x ∈ chn steps v) ∧ (gN steps v = gN steps x ↔ v = x):=by
 have h1:=List.all_eq_true.mp (List.all_eq_true.mp pair_all _ (chn_mem G h)) _ (chn_mem G hx)
 unfold pairChk at h1
 rw [pre2_eq G h hx,chn_eqv G h hx,chn_eqv G hx h] at h1
 simp only [Bool.and_eq_true,beq_iff_eq] at h1
 obtain ⟨⟨⟨a,b⟩,c⟩,d⟩:=h1
 refine ⟨a,b,c,?_⟩
 rw [Bool.eq_iff_iff,decide_eq_true_eq,decide_eq_true_eq] at d
 exact d
theorem gN_inj (G : Gr (Sof steps)) (h : 0 ≤ v ∧ v < 5) (hx : 0 ≤ x ∧ x < 5) (e : gN steps v = gN steps x) : v = x:=(pair_at G h hx).2.2.2.mp e
theorem one_at (G : Gr (Sof steps)) (h : 0 ≤ v ∧ v < 5) : Txt.startswith ("/" : Str) (pathOf (gN steps v) ++ "/") = false ∧ modnameP (pathOf (gN steps v)) = lawCall v 0 ∧ lastOf (gN steps v) = lawCall v 0 ∧ (2 ≤ (chn steps v).length → modnameP (("/" : Str) ++ gN steps v) = nameOf (chn steps v).dropLast):=by
 have h1:=List.all_eq_true.mp one_all _ (chn_mem G h)
 unfold oneChk at h1
 rw [chn_last G h] at h1
 simp only [Bool.and_eq_true,Bool.or_eq_true,decide_eq_true_eq,beq_iff_eq] at h1
 obtain ⟨⟨⟨a,b⟩,c⟩,d⟩:=h1
 exact ⟨a,b,c,fun hl=>d.resolve_left (by lia)⟩
theorem max_below (P : Int → Prop) (h0 : P 0) : ∀ (k : Nat),∃ d,0 ≤ d ∧ d < (k : Int) + 1 ∧ P d ∧ ∀ e,0 ≤ e → e < (k : Int) + 1 → P e → e ≤ d
 | 0=>⟨0,by lia,by lia,h0,fun e a b _=>by lia⟩
 | k + 1=>by
  by_cases h : P ((k : Int) + 1)
  ·exact ⟨(k : Int) + 1,by lia,by lia,h,fun e a b _=>by lia⟩
  ·obtain ⟨d,a,b,c,q⟩:=max_below P h0 k
   refine ⟨d,a,by lia,c,fun e a' b' c'=>?_⟩
   by_cases he : e = (k : Int) + 1
   ·subst he; exact absurd c' h
   ·exact q e a' (by lia) c'
theorem idom (G : Gr (Sof steps)) (h : 1 ≤ v ∧ v < 5) : ∃ d,0 ≤ d ∧ d < v ∧ d ∈ chn steps v ∧ chn steps v = chn steps d ++ [v] ∧ ∀ e ∈ chn steps v,e ≠ v → e ≤ d:=by
 have hv : 0 ≤ v ∧ v < 5:=by lia
 obtain ⟨d,a,b,c,q⟩:=max_below (fun e=>e ∈ chn steps v) (chn_zero G hv) (v.toNat - 1)
 have hdv : d < v:=by lia
 have hq : ∀ e ∈ chn steps v,e ≠ v → e ≤ d:=fun e he hne=>by
  have h1:=chn_le G hv he
  have h2:=((mem_chn G hv e).mp he).1.1
  exact q e h2 (by lia) he
 refine ⟨d,a,hdv,c,?_,hq⟩
 have hs:=chn_split G hv c
 have key : ∀ v ∈ ([1,2,3,4] : List Int),∀ d ∈ ([0,1,2,3] : List Int),d < v → intRange (d + 1) 5 = intRange (d + 1) v ++ (v :: intRange (v + 1) 5):=by decide
 have hv4 : v = 1 ∨ v = 2 ∨ v = 3 ∨ v = 4:=by lia
 have hd4 : d = 0 ∨ d = 1 ∨ d = 2 ∨ d = 3:=by lia
 have e:=key v (by simp; lia) d (by simp; lia) hdv
 rw [e,List.filter_append,List.filter_cons,if_pos (decide_eq_true (chn_self G hv)),filter_none,filter_none] at hs
 ·exact hs
 ·intro e he
  have:=mem_intRange.mp he
  rw [decide_eq_false_iff_not]
  intro hm
  have:=chn_le G hv hm
  lia
 ·intro e he
  have:=mem_intRange.mp he
  rw [decide_eq_false_iff_not]
  intro hm
  have:=hq e hm (by lia)
  lia
theorem mod_up (G : Gr (Sof steps)) (h : 1 ≤ v ∧ v < 5) {d : Int} (e : chn steps v = chn steps d ++ [v]) (hd : 0 ≤ d ∧ d < 5) : modnameP (("/" : Str) ++ gN steps v) = gN steps d:=by
 have h1:=(one_at G (v:=v) (by lia)).2.2.2
 rw [e,List.dropLast_concat] at h1
 refine h1 ?_
 rw [List.length_append]
 have:=List.length_pos_of_mem (chn_self G hd)
 show 2 ≤ _ + 1
 lia
theorem gN_ok (G : Gr (Sof steps)) (h : 0 ≤ v ∧ v < 5) : NmOk (gN steps v):=nmOk (chn_mem G h)
theorem same_call {y z : Int} {nm : Str} {m : Int} {w : Str} (hy : 0 ≤ y ∧ y < 5) (hz : 0 ≤ z ∧ z < 5) (e : Txt.lower nm = baseC z) : sameH nm (lawCall y m,w) = decide (y = z):=by
 unfold sameH
 rw [Bool.eq_iff_iff,decide_eq_true_eq,decide_eq_true_eq]
 show Txt.lower (lawCall y m) = _ ↔ _
 rw [call_lower hy,e]
 exact ⟨base_inj hy hz,fun e=>by rw [e]⟩
variable {τ : Type} {l : List τ} {ky km : τ → Int} {f : τ → Str} {nm : Str} {z : Int}
theorem getAll_rows (hl : ∀ t ∈ l,0 ≤ ky t ∧ ky t < 5) (hz : 0 ≤ z ∧ z < 5) (e : Txt.lower nm = baseC z) : getAll (l.map fun t=>(lawCall (ky t) (km t),f t)) nm = (l.filter fun t=>decide (ky t = z)).map f:=by
 unfold getAll
 rw [List.filter_map,List.map_map]
 have : l.filter (sameH nm ∘ fun t=>(lawCall (ky t) (km t),f t)) = l.filter fun t=>decide (ky t = z):=List.filter_congr fun t ht=>same_call (hl t ht) hz e
 rw [this]; rfl
theorem find_congr {p q : τ → Bool} : ∀ {l : List τ},(∀ t ∈ l,p t = q t) → l.find? p = l.find? q
 | [],_=>rfl
 | a :: l,h=>by
  rw [List.find?_cons,List.find?_cons,h a List.mem_cons_self,find_congr fun t ht=>h t (List.mem_cons_of_mem _ ht)]
theorem findH_rows (hl : ∀ t ∈ l,0 ≤ ky t ∧ ky t < 5) (hz : 0 ≤ z ∧ z < 5) (e : Txt.lower nm = baseC z) : findH (l.map fun t=>(lawCall (ky t) (km t),f t)) nm = (l.find? fun t=>decide (ky t = z)).map fun t=>(lawCall (ky t) (km t),f t):=by
 unfold findH
 rw [List.find?_map]
 congr 1
 exact find_congr fun t ht=>same_call (hl t ht) hz e
theorem findV_rows (hl : ∀ t ∈ l,0 ≤ ky t ∧ ky t < 5) (hz : 0 ≤ z ∧ z < 5) (e : Txt.lower nm = baseC z) : Option.map (·.2) (findH (l.map fun t=>(lawCall (ky t) (km t),f t)) nm) = (l.find? fun t=>decide (ky t = z)).map f:=by
 rw [findH_rows hl hz e,Option.map_map]; rfl
end
section
variable {steps : List (Int × Int)} {x y : Int} {d : Addr}
noncomputable def dm (steps : List (Int × Int)) (x y : Int) : Int:=if x ∈ chn steps y then 1 else 0
noncomputable def dms (steps : List (Int × Int)) (x y : Int) : Int:=if x ∈ chn steps y ∧ x ≠ y then 1 else 0
theorem ans_in (G : Gr (Sof steps)) (hx : 0 ≤ x ∧ x < 5) (hy : 0 ≤ y ∧ y < 5) (f : Option Str) : igAns ⟨[gN steps x],[],d⟩ f (gN steps y) = if x ∈ chn steps y then 1 else match f with | none=>1 | some _=>0:=by
 obtain ⟨a,_,_,b⟩:=pair_at G hy hx
 unfold igAns
 by_cases e : y = x
 ·subst e
  rw [if_pos (List.mem_singleton.mpr rfl),if_pos (chn_self G hy)]
 ·rw [if_neg (fun h=>e (b.mp (List.mem_singleton.mp h)))]
  show (if ([gN steps x].any fun q=>Txt.startswith (gN steps y) (q ++ ".")) = true then 1 else _) = _
  rw [List.any_cons,List.any_nil,Bool.or_false,a]
  have hne : decide (x = y) = false:=decide_eq_false fun q=>e q.symm
  rw [hne,Bool.not_false,Bool.and_true]
  by_cases q : x ∈ chn steps y
  ·rw [if_pos (decide_eq_true q),if_pos q]
  ·rw [if_neg (by rw [decide_eq_false q]; decide),if_neg q]
   cases f with
   | none=>rfl
   | some f=>rfl
theorem ans_out (G : Gr (Sof steps)) (hx : 0 ≤ x ∧ x < 5) (hy : 0 ≤ y ∧ y < 5) : igAns ⟨[],[pathOf (gN steps x)],d⟩ (some (pathOf (gN steps y))) (gN steps y) = dms steps x y:=by
 obtain ⟨_,a,_,_⟩:=pair_at G hy hx
 show (if ([pathOf (gN steps x)].any fun q=>Txt.startswith (pathOf (gN steps y)) (q ++ "/")) = true then (1 : Int) else 0) = _
 rw [List.any_cons,List.any_nil,Bool.or_false,a]
 unfold dms
 by_cases q : x ∈ chn steps y ∧ x ≠ y
 ·rw [if_pos q,if_pos]
  rw [decide_eq_true q.1,decide_eq_false q.2]; rfl
 ·rw [if_neg q,if_neg]
  intro h
  rw [Bool.and_eq_true,Bool.not_eq_true',decide_eq_true_eq,decide_eq_false_iff_not] at h
  exact q h
theorem if_iff {α : Type} {p q : Prop} [Decidable p] [Decidable q] (h : p ↔ q) (a b : α) : (if p then a else b) = if q then a else b:=by
 by_cases e : p
 ·rw [if_pos e,if_pos (h.mp e)]
 ·rw [if_neg e,if_neg fun x=>e (h.mpr x)]
noncomputable def Cache (steps : List (Int × Int)) (kvs : List (Str × Int)) (ans : Int → Int) (A : List Int) : Prop:=∀ y,0 ≤ y ∧ y < 5 → atD kvs (gN steps y) = if y ∈ A then some (ans y) else none
theorem cache_new (G : Gr (Sof steps)) (ans : Int → Int) : Cache steps ig1 ans []:=fun y hy=>by
 rw [if_neg (by simp)]
 show Option.map _ (List.find? _ [(("<string>" : Str),(1 : Int))]) = none
 rw [List.find?_cons,List.find?_nil]
 have : decide (("<string>" : Str) = gN steps y) = false:=decide_eq_false fun e=>(gN_ok G hy).ne.1 e.symm
 rw [this]; rfl
theorem atD_snoc (kvs : List (Str × Int)) (m k : Str) (j : Int) (h : atD kvs m = none) : atD (kvs ++ [(m,j)]) k = if k = m then some j else atD kvs k:=by
 unfold atD at *
 rw [List.find?_append]
 by_cases e : k = m
 ·subst e
  have : kvs.find? (fun kv=>decide (kv.1 = k)) = none:=by
   cases q : kvs.find? (fun kv=>decide (kv.1 = k)) with
   | none=>rfl
   | some p=>rw [q] at h; cases h
  rw [this,if_pos rfl]
  simp
 ·rw [if_neg e]
  have : ([(m,j)] : List (Str × Int)).find? (fun kv=>decide (kv.1 = k)) = none:=by
   have e' : ¬ m = k:=fun q=>e q.symm
   simp [e']
  rw [this,Option.or_none]
theorem Cache.ask (G : Gr (Sof steps)) {g : Ig} {kvs : List (Str × Int)} {ans : Int → Int} {A : List Int} (h : Cache steps kvs ans A) {f : Option Str} (hy : 0 ≤ y ∧ y < 5) (hf : y ∉ A → igAns g f (gN steps y) = ans y) :
  (igNames g kvs f (gN steps y)).1 = ans y ∧ Cache steps (igNames g kvs f (gN steps y)).2 ans (A ++ [y]):=by
 have hh:=h y hy
 unfold igNames
 by_cases q : y ∈ A
 ·rw [if_pos q] at hh
  rw [hh]
  refine ⟨rfl,fun z hz=>?_⟩
  show atD kvs _ = _
  rw [h z hz]
  refine if_iff ⟨fun e=>List.mem_append_left _ e,fun e=>?_⟩ _ _
  rcases List.mem_append.mp e with e | e
  ·exact e
  ·rw [List.mem_singleton.mp e]; exact q
 ·rw [if_neg q] at hh
  rw [hh]
  refine ⟨hf q,fun z hz=>?_⟩
  show atD (kvs ++ [(gN steps y,igAns g f (gN steps y))]) _ = _
  rw [atD_snoc _ _ _ _ hh,hf q]
  by_cases e : z = y
  ·subst e
   rw [if_pos rfl,if_pos (List.mem_append_right _ (List.mem_singleton.mpr rfl))]
  ·rw [if_neg (fun q=>e (gN_inj G hz hy q)),h z hz]
   exact if_iff ⟨fun q=>List.mem_append_left _ q,fun q=>(List.mem_append.mp q).resolve_right (fun r=>e (List.mem_singleton.mp r))⟩ _ _
end
noncomputable def gCh (row : List Int) : List (List Int):=lcOver (lcFound (lawSteps row))
noncomputable def gNames (row : List Int) : List Str:=lawNames (gCh row)
noncomputable def gEnv (row : List Int) (is1 is2 : List Addr) : WE:=lawEnv (lawSteps row) (lawMarks row) (gNames row) (lawPaths (gNames row)) is1 is2
noncomputable def gT (row : List Int) (w : Int × Int × Int) : Int:=if w.2.2 = 1 then dm (lawSteps row) w.1 w.2.1 else dms (lawSteps row) w.1 w.2.1
noncomputable def gSt (row : List Int) (is1 is2 : List Addr) : WS:=stW (gEnv row is1 is2) (gT row) (lawWishes row)
noncomputable def gReads (row : List Int) : List (List Int):=lawReads (lawWishes row) (gCh row)
noncomputable def gStays (row : List Int) : List (List Int):=lawStays (lawWishes row) (gCh row)
noncomputable def gAlive (row : List Int) : List (List Int):=lawAlive (lawSteps row) (gReads row) (gStays row)
noncomputable def gEnds (row : List Int) : List (List Int):=lawEnds (lawSteps row) (gStays row) (gAlive row)
structure LawMath (row : List Int) : Prop where
 lc : LcFit (lawSteps row)
 ch : ChOk (gCh row)
 v : ∀ is1 is2 : List Addr,is1.length = 5 → is2.length = 5 → ∀ v,0 ≤ v ∧ v < 5 → LawV (lawSteps row) (gCh row) (gEnv row is1 is2) v
 kept : ∀ is1 is2 : List Addr,is1.length = 5 → is2.length = 5 → LawKept (gEnv row is1 is2) (gT row)
 live : ∀ is1 is2 : List Addr,∀ v,0 ≤ v ∧ v < 5 → LawLive (gNames row) (gSt row is1 is2).live (gSt row is1 is2).last (gStays row) (gAlive row) v
 fin : ∀ is1 is2 : List Addr,is1.length = 5 → is2.length = 5 → ∃ bx,LawFin (lawSteps row) (gCh row) (gReads row) (gStays row) (gEnds row) (gEnv row is1 is2) (gSt row is1 is2) bx
theorem lawSteps_ok {row : List Int} (h : 6 ≤ row.length ∧ row.length ≤ 11) : (lawSteps row).length ≤ 12 ∧ ∀ p ∈ lawSteps row,(0 ≤ p.1 ∧ p.1 < 5) ∧ (0 ≤ p.2 ∧ p.2 < 5):=by
 refine ⟨by rw [lawSteps_len]; lia,fun p hp=>?_⟩
 unfold lawSteps lawTree at hp
 rcases List.mem_append.mp hp with hp | hp
 ·rcases List.mem_append.mp hp with hp | hp
  ·rw [List.mem_singleton.mp hp]; decide
  ·obtain ⟨k,hk,rfl⟩:=List.mem_map.mp hp
   have hk:=mem_intRange.mp hk
   have h1:=Int.emod_nonneg (row.getD (Int.toNat (k - 2)) 0) (show k ≠ 0 by lia)
   have h2:=Int.emod_lt_of_pos (row.getD (Int.toNat (k - 2)) 0) (show 0 < k by lia)
   exact ⟨⟨h1,by show _ % k < 5; lia⟩,by show 0 ≤ k ∧ k < 5; lia⟩
 ·obtain ⟨k,hk,rfl⟩:=List.mem_map.mp hp
  show (0 ≤ k % 5 ∧ k % 5 < 5) ∧ (0 ≤ 1 + k / 5 % 4 ∧ 1 + k / 5 % 4 < 5)
  lia
theorem marks_len {row : List Int} (h : 6 ≤ row.length ∧ row.length ≤ 11) : (lawMarks row).length ≤ 12:=by
 unfold lawMarks
 rw [List.length_append,List.length_map]
 show 1 + row.length ≤ 12
 lia
theorem law_all (hM : ∀ script : List Int,script.length ≤ 63 → LawMath (lawRow script)) (G : Gl) (hG : TopOk G) (hTB : G.TB = 288) (script : List Int) (hs : script.length ≤ 63) (env : Env) (ca : List Addr) (F : FEnv env nL nC ca nG) (hl : ca.length = (nC : List Str).length) : Ex G 20 env (VS env.locals nL [some ⟨tLI,script⟩,none,none,none,none,none,none,none,none,none,none,none,none,none] ca (blank (nC : List Str).length) ++ [rTab 288 ⟨236,30,236,52⟩]) (defBody (topSt 28)) (fOutP G (fun K v mu'=>mu' = [rTab 288 ⟨236,30,236,52⟩] ∧ tBool.rel K v true)):=by
 refine (show Ex G 20 env (VS env.locals nL [some ⟨tLI,script⟩,none,none,none,none,none,none,none,none,none,none,none,none,none] ca (blank (nC : List Str).length) ++ [rTab 288 ⟨236,30,236,52⟩]) (defBody (topSt 28)) (rRet G tBool true [rTab 288 ⟨236,30,236,52⟩]) from ?_).mono fun f K mu' q=>q.toP.toO
 obtain ⟨c0,c1,c2,c3,c4,c5,c6,c7,c8,c9,c10,c11,rfl⟩:=ex12 hl
 next =>
  have h:=hM script hs
  have hr:=lawRow_len (script:=script)
  generalize hrow : lawRow script = row at h hr
  have hst:=lawSteps_ok hr
  refine law_A (n:=12) hG hTB F hrow.symm (by lia) h.lc h.ch ?_
  have hB : LawBase row (lawSteps row) (lawMarks row) (gCh row) (gNames row) (lawPaths (gNames row)):=⟨hr,hst,marks_len hr,h.ch,rfl,rfl⟩
  refine law_B (n:=12) hG F hB (fun is1 is2 ha la ta ba h1 h2=>?_)
  have hE : WFit (gEnv row is1 is2):=(base_fit hB h1 h2).1
  have hK:=h.kept is1 is2 h1 h2
  refine law_C (n:=12) (E:=gEnv row is1 is2) hG F hE hst h.ch (h.v is1 is2 h1 h2) ?_
  refine law_D (n:=12) hG F hE hr.2 hK ?_
  obtain ⟨hwl,hw⟩:=wishes_ok (row:=row)
  have hI:=stW_inv hE (T:=gT row) (lawWishes row) (m:=0) (live:=[]) (last:=[]) hw (by lia) ⟨Nat.le_refl _,fun kv h=>nomatch h⟩ ⟨Nat.le_refl _,fun kv h=>nomatch h⟩
  have hlv : (gSt row is1 is2).live.length ≤ 60:=Nat.le_trans hI.1.1 (by lia)
  have hlt : (gSt row is1 is2).last.length ≤ 60:=Nat.le_trans hI.2.1 (by lia)
  refine law_E (n:=12) (st:=gSt row is1 is2) hG F hE hr.2 hst h.ch ⟨hI.1.2.fit hE (Nat.le_trans hlv (by decide)),hlv⟩ ⟨hI.2.2.fit hE (Nat.le_trans hlt (by decide)),hlt⟩ (h.live is1 is2) ?_
  obtain ⟨⟨r1,r2⟩,y1,y2⟩:=reads_le (wishes:=lawWishes row) (chains:=gCh row) (b:=11) (by lia)
  obtain ⟨bx,hF⟩:=h.fin is1 is2 h1 h2
  exact law_F (n:=12) (st:=gSt row is1 is2) hG F hE hst h.ch ⟨r1,r2⟩ ⟨y1,y2⟩ (ends_ok _ _ _) ⟨hI.1.2,hlv⟩ ⟨hI.2.2,hlt⟩ rfl rfl hK hF
theorem law_gr {row : List Int} (h : 6 ≤ row.length ∧ row.length ≤ 11) : Gr (Sof (lawSteps row)):=by
 refine ⟨fun {u v} e=>?_,fun v h1 h5=>?_⟩
 ·have h2:=(lawSteps_ok h).2 _ e
  refine ⟨h2.1,?_,h2.2.2⟩
  show 1 ≤ v
  unfold lawSteps lawTree at e
  rcases List.mem_append.mp e with e | e
  ·rcases List.mem_append.mp e with e | e
   ·have:=congrArg Prod.snd (List.mem_singleton.mp e)
    have : v = 1:=this
    lia
   ·obtain ⟨k,hk,e⟩:=List.mem_map.mp e
    have:=congrArg Prod.snd e
    have : k = v:=this
    have:=mem_intRange.mp hk
    lia
  ·obtain ⟨k,hk,e⟩:=List.mem_map.mp e
   have:=congrArg Prod.snd e
   have : 1 + k / 5 % 4 = v:=this
   lia
 ·by_cases e : v = 1
  ·subst e
   refine ⟨0,by lia,by lia,?_⟩
   exact List.mem_append_left _ (List.mem_append_left _ List.mem_cons_self)
  ·refine ⟨(row.getD (Int.toNat (v - 2)) 0) % v,Int.emod_nonneg _ (by lia),Int.emod_lt_of_pos _ (by lia),?_⟩
   exact List.mem_append_left _ (List.mem_append_right _ (List.mem_map.mpr ⟨v,mem_intRange.mpr (by lia),rfl⟩))
theorem Cache.askL {steps : List (Int × Int)} (G : Gr (Sof steps)) {g : Ig} {ans : Int → Int} {f : Int → Option Str} : ∀ (ys : List Int) {kvs : List (Str × Int)} {A : List Int},Cache steps kvs ans A → (∀ y ∈ ys,0 ≤ y ∧ y < 5) → (∀ y ∈ ys,y ∉ A → igAns g (f y) (gN steps y) = ans y) →
  (Mine.askL g kvs (ys.map fun y=>(f y,gN steps y))).1 = ys.map ans ∧ Cache steps (Mine.askL g kvs (ys.map fun y=>(f y,gN steps y))).2 ans (A ++ ys)
 | [],kvs,A,h,_,_=>⟨rfl,by rw [List.append_nil]; exact h⟩
 | y :: ys,kvs,A,h,h5,hf=>by
  obtain ⟨a,b⟩:=h.ask G (g:=g) (f:=f y) (h5 y List.mem_cons_self) (hf y List.mem_cons_self)
  obtain ⟨c,d⟩:=Cache.askL G (g:=g) (f:=f) ys b (fun z hz=>h5 z (List.mem_cons_of_mem _ hz)) (fun z hz hn=>hf z (List.mem_cons_of_mem _ hz) (fun q=>hn (List.mem_append_left _ q)))
  rw [List.map_cons,Mine.askL]
  refine ⟨?_,?_⟩
  ·show _ :: _ = _
   rw [a,c]; rfl
  ·rw [List.append_assoc] at d
   exact d
theorem idxOf_map {α β : Type} [DecidableEq α] [DecidableEq β] (f : α → β) (a : α) : ∀ (l : List α),(∀ b ∈ l,f b = f a → b = a) → (l.map f).idxOf (f a) = l.idxOf a
 | [],_=>rfl
 | b :: l,h=>by
  rw [List.map_cons,List.idxOf_cons,List.idxOf_cons,idxOf_map f a l fun c hc=>h c (List.mem_cons_of_mem _ hc)]
  by_cases e : b = a
  ·subst e; simp
  ·have : (f b == f a) = false:=beq_eq_false_iff_ne.mpr fun q=>e (h b List.mem_cons_self q)
   have e' : (b == a) = false:=beq_eq_false_iff_ne.mpr e
   rw [this,e']
theorem Cache.kept {steps : List (Int × Int)} {g : Ig} {kvs : List (Str × Int)} {ans : Int → Int} {A : List Int} (h : Cache steps kvs ans A) {f : Option Str} {y : Int} (hy : 0 ≤ y ∧ y < 5) (hm : y ∈ A) : igNames g kvs f (gN steps y) = (ans y,kvs):=by
 unfold igNames
 rw [h y hy,if_pos hm]
section
variable {row : List Int} {is1 is2 : List Addr}
theorem names_eq (row : List Int) : gNames row = (intRange 0 5).map (gN (lawSteps row)):=by
 unfold gNames gCh lawNames
 rw [over_eq,List.map_map]
 rfl
theorem names_get {v : Int} (h : 0 ≤ v ∧ v < 5) : (gNames row).getD v.toNat Str.empty = gN (lawSteps row) v:=by rw [names_eq]; exact getD_range _ _ h
theorem paths_get {v : Int} (h : 0 ≤ v ∧ v < 5) : (lawPaths (gNames row)).getD v.toNat Str.empty = pathOf (gN (lawSteps row) v):=by
 unfold lawPaths
 rw [names_eq,List.map_map]
 exact getD_range _ _ h
theorem idx_range {v : Int} (h : 0 ≤ v ∧ v < 5) : (intRange 0 5).idxOf v = v.toNat:=by
 rw [range5]
 have : v = 0 ∨ v = 1 ∨ v = 2 ∨ v = 3 ∨ v = 4:=by lia
 rcases this with rfl | rfl | rfl | rfl | rfl <;> decide
theorem names_idx (G : Gr (Sof (lawSteps row))) {v : Int} (h : 0 ≤ v ∧ v < 5) : (gNames row).idxOf (gN (lawSteps row) v) = v.toNat:=by
 rw [names_eq,idxOf_map _ _ _ fun b hb e=>gN_inj G (mem_intRange.mp hb) h e,idx_range h]
theorem zip_get {α : Type} (f : Str → Addr → α) (d : α) {l : List Str} {is : List Addr} (hl : l.length = 5) (hi : is.length = 5) {i : Nat} (h : i < 5) : ∃ a,(List.zipWith f l is).getD i d = f (l.getD i Str.empty) a:=by
 refine ⟨is.getD i 0,?_⟩
 rw [List.getD_eq_getElem?_getD,List.getD_eq_getElem?_getD,List.getD_eq_getElem?_getD,List.getElem?_zipWith,List.getElem?_eq_getElem (by lia),List.getElem?_eq_getElem (by lia)]
 rfl
theorem names_len : (gNames row).length = 5:=by rw [names_eq,List.length_map,intRange_len]; rfl
theorem inG_get (h1 : is1.length = 5) {x : Int} (h : 0 ≤ x ∧ x < 5) : ∃ a,(gEnv row is1 is2).inG.getD x.toNat ig0 = ⟨[gN (lawSteps row) x],[],a⟩:=by
 obtain ⟨a,e⟩:=zip_get mkIn ig0 (l:=gNames row) (is:=is1) names_len h1 (i:=x.toNat) (by lia)
 exact ⟨a,by show (List.zipWith mkIn (gNames row) is1).getD x.toNat ig0 = _; rw [e,names_get h]; rfl⟩
theorem outG_get (G : Gr (Sof (lawSteps row))) (h2 : is2.length = 5) {x : Int} (h : 0 ≤ x ∧ x < 5) : ∃ a,(gEnv row is1 is2).outG.getD x.toNat ig0 = ⟨[],[pathOf (gN (lawSteps row) x)],a⟩:=by
 obtain ⟨a,e⟩:=zip_get mkOut ig0 (l:=gNames row) (is:=is2) names_len h2 (i:=x.toNat) (by lia)
 refine ⟨a,?_⟩
 show (List.zipWith mkOut (gNames row) is2).getD x.toNat ig0 = _
 rw [e,names_get h]
 unfold mkOut
 rw [List.map_cons,List.map_nil,(gN_ok G h).np]
theorem marks_eq (h : 6 ≤ row.length ∧ row.length ≤ 11) : (lawMarks row).length = (lawSteps row).length:=by
 unfold lawMarks
 rw [lawSteps_len,List.length_append,List.length_map]
 show 1 + row.length = 4 + (row.length - 3)
 lia
noncomputable def psOf (row : List Int) (y : Int) : List Int:=(((lawSteps row).zip (lawMarks row)).filter fun t=>decide (t.1.2 = y)).map fun t=>t.1.1
theorem zip_fst {α β : Type} : ∀ {l : List α} {m : List β},l.length ≤ m.length → (l.zip m).map (·.1) = l
 | [],m,_=>by simp
 | a :: l,[],h=>by simp at h
 | a :: l,b :: m,h=>by rw [List.zip_cons_cons,List.map_cons,zip_fst (by simpa using h)]
theorem ps_eq (h : 6 ≤ row.length ∧ row.length ≤ 11) (y : Int) : psOf row y = ((lawSteps row).filter fun t=>decide (t.2 = y)).map (·.1):=by
 conv=>rhs; rw [← zip_fst (l:=lawSteps row) (m:=lawMarks row) (by rw [marks_eq h]; exact Nat.le_refl _),List.filter_map,List.map_map]
 rfl
theorem mem_ps (h : 6 ≤ row.length ∧ row.length ≤ 11) {p y : Int} : p ∈ psOf row y ↔ (p,y) ∈ lawSteps row:=by
 rw [ps_eq h,List.mem_map]
 constructor
 ·rintro ⟨t,ht,rfl⟩
  obtain ⟨a,b⟩:=List.mem_filter.mp ht
  have:=of_decide_eq_true b
  rw [← this]; exact a
 ·intro e
  exact ⟨(p,y),List.mem_filter.mpr ⟨e,decide_eq_true rfl⟩,rfl⟩
theorem heads_eq (h : 6 ≤ row.length ∧ row.length ≤ 11) : (gEnv row is1 is2).heads = ((lawSteps row).zip (lawMarks row)).map fun t=>(lawCall t.1.2 t.2,gN (lawSteps row) t.1.1):=by
 show ((lawSteps row).zip (lawMarks row)).map (hdRow (gNames row)) = _
 refine List.map_congr_left fun t ht=>?_
 unfold hdRow
 rw [names_get ((lawSteps_ok h).2 _ (List.of_mem_zip ht).1).1]
theorem heads_all (h : 6 ≤ row.length ∧ row.length ≤ 11) {y : Int} (hy : 0 ≤ y ∧ y < 5) {nm : Str} (e : Txt.lower nm = baseC y) : getAll (gEnv row is1 is2).heads nm = (psOf row y).map (gN (lawSteps row)):=by
 rw [heads_eq h]
 have:=getAll_rows (l:=(lawSteps row).zip (lawMarks row)) (ky:=fun t=>t.1.2) (km:=fun t=>t.2) (f:=fun t=>gN (lawSteps row) t.1.1) (nm:=nm) (z:=y) (fun t ht=>((lawSteps_ok h).2 _ (List.of_mem_zip ht).1).2) hy e
 rw [this]
 unfold psOf
 rw [List.map_map]; rfl
theorem came_eq (hr : 6 ≤ row.length ∧ row.length ≤ 11) {u : Int} : lawCame (lawSteps row) (gNames row) u = (psOf row u).map (gN (lawSteps row)):=by
 unfold lawCame
 rw [ps_eq hr,List.map_map]
 refine List.map_congr_left fun t ht=>?_
 exact names_get ((lawSteps_ok hr).2 _ (List.mem_filter.mp ht).1).1
theorem head_getD (l : List Str) : Option.getD l.head? ("" : Str) = List.getD (l ++ [("" : Str)]) 0 Str.empty:=by
 cases l with
 | nil=>rfl
 | cons a l=>rfl
theorem first_eq (hr : 6 ≤ row.length ∧ row.length ≤ 11) {u : Int} (hu : 0 ≤ u ∧ u < 5) : Option.map (·.2) (findH (gEnv row is1 is2).heads (lawCall u 3)) = ((psOf row u).map (gN (lawSteps row))).head?:=by
 rw [heads_eq hr]
 have:=findV_rows (l:=(lawSteps row).zip (lawMarks row)) (ky:=fun t=>t.1.2) (km:=fun t=>t.2) (f:=fun t=>gN (lawSteps row) t.1.1) (nm:=lawCall u 3) (z:=u) (fun t ht=>((lawSteps_ok hr).2 _ (List.of_mem_zip ht).1).2) hu (call_lower hu 3)
 rw [this,← List.head?_filter,← List.head?_map]
 unfold psOf
 rw [List.map_map]; rfl
theorem in_cache (hr : 6 ≤ row.length ∧ row.length ≤ 11) (h1 : is1.length = 5) {x : Int} (hx : 0 ≤ x ∧ x < 5) : (askIn (gEnv row is1 is2) x.toNat).1 = (intRange 0 5).map (dm (lawSteps row) x) ∧ Cache (lawSteps row) (askIn (gEnv row is1 is2) x.toNat).2 (dm (lawSteps row) x) ([] ++ intRange 0 5):=by
 have G:=law_gr hr
 obtain ⟨a,ea⟩:=inG_get (row:=row) (is2:=is2) h1 hx
 have eP : (intRange 0 5).map (qP (gEnv row is1 is2)) = (intRange 0 5).map fun y=>((fun y=>some (pathOf (gN (lawSteps row) y))) y,gN (lawSteps row) y):=List.map_congr_left fun y hy=>by
  show (some ((lawPaths (gNames row)).getD y.toNat Str.empty),(gNames row).getD y.toNat Str.empty) = _
  rw [names_get (mem_intRange.mp hy),paths_get (mem_intRange.mp hy)]
 unfold askIn
 rw [ea,eP]
 exact Cache.askL G (f:=fun y=>some (pathOf (gN (lawSteps row) y))) (intRange 0 5) (cache_new G _) (fun y hy=>mem_intRange.mp hy) fun y hy _=>by
  rw [ans_in G hx (mem_intRange.mp hy)]; rfl
theorem out_cache (hr : 6 ≤ row.length ∧ row.length ≤ 11) (h2 : is2.length = 5) {x : Int} (hx : 0 ≤ x ∧ x < 5) : (askOut (gEnv row is1 is2) x.toNat).1 = (intRange 0 5).map (dms (lawSteps row) x) ∧ Cache (lawSteps row) (askOut (gEnv row is1 is2) x.toNat).2 (dms (lawSteps row) x) ([] ++ intRange 0 5):=by
 have G:=law_gr hr
 obtain ⟨a,ea⟩:=outG_get (row:=row) (is1:=is1) G h2 hx
 have eP : (intRange 0 5).map (qP (gEnv row is1 is2)) = (intRange 0 5).map fun y=>((fun y=>some (pathOf (gN (lawSteps row) y))) y,gN (lawSteps row) y):=List.map_congr_left fun y hy=>by
  show (some ((lawPaths (gNames row)).getD y.toNat Str.empty),(gNames row).getD y.toNat Str.empty) = _
  rw [names_get (mem_intRange.mp hy),paths_get (mem_intRange.mp hy)]
 unfold askOut
 rw [ea,eP]
 exact Cache.askL G (f:=fun y=>some (pathOf (gN (lawSteps row) y))) (intRange 0 5) (cache_new G _) (fun y hy=>mem_intRange.mp hy) fun y hy _=>ans_out G hx (mem_intRange.mp hy)
theorem law_kept (hr : 6 ≤ row.length ∧ row.length ≤ 11) (h1 : is1.length = 5) (h2 : is2.length = 5) : LawKept (gEnv row is1 is2) (gT row):=by
 have hin : ∀ y : Int,0 ≤ y ∧ y < 5 → y ∈ ([] ++ intRange 0 5 : List Int):=fun y hy=>mem_intRange.mpr hy
 refine ⟨fun w a b c=>?_,fun w a b c=>?_⟩
 ·show igNames _ _ _ ((gNames row).getD w.2.1.toNat Str.empty) = _
  rw [names_get b,(in_cache (is2:=is2) hr h1 a).2.kept b (hin _ b)]
  unfold gT
  rw [if_pos c]
 ·show igNames _ _ _ ((gNames row).getD w.2.1.toNat Str.empty) = _
  rw [names_get b,(out_cache (is1:=is1) hr h2 a).2.kept b (hin _ b)]
  unfold gT
  rw [if_neg c]
theorem chain_last (G : Gr (Sof (lawSteps row))) {x y : Int} (hy : 0 ≤ y ∧ y < 5) : x ∈ pySlice (chn (lawSteps row) y) none (some (-1)) ↔ x ∈ chn (lawSteps row) y ∧ x ≠ y:=by
 rw [pySlice_init]
 have e:=chn_snoc G hy
 have e2 : (chn (lawSteps row) y).dropLast = (intRange 0 y).filter fun d=>decide (d ∈ chn (lawSteps row) y):=by
  conv=>lhs; rw [e]
  exact List.dropLast_concat ..
 rw [e2,List.mem_filter,mem_intRange,decide_eq_true_eq]
 constructor
 ·rintro ⟨p,q⟩; exact ⟨q,by lia⟩
 ·rintro ⟨p,q⟩
  have:=chn_le G hy p
  have:=((mem_chn G hy x).mp p).1
  exact ⟨by lia,p⟩
theorem chains_get {y : Int} : (gCh row).getD y.toNat [] = chn (lawSteps row) y:=rfl
theorem law_v (hr : 6 ≤ row.length ∧ row.length ≤ 11) (h1 : is1.length = 5) (h2 : is2.length = 5) {v : Int} (hv : 0 ≤ v ∧ v < 5) : LawV (lawSteps row) (gCh row) (gEnv row is1 is2) v:=by
 have G:=law_gr hr
 have hnm : (gEnv row is1 is2).names = gNames row:=rfl
 refine ⟨?_,?_,?_,?_,?_⟩
 ·rw [heads_all hr hv (call_lower hv 2),hnm,came_eq hr]
 ·rw [first_eq hr hv,hnm,came_eq hr]
  exact head_getD _
 ·show modnameP ((lawPaths (gNames row)).getD v.toNat Str.empty) = _
  rw [paths_get hv]
  exact (one_at G hv).2.1
 ·rw [(in_cache hr h1 hv).1]
  unfold inWant
  refine List.map_congr_left fun y hy=>?_
  rw [chains_get]
  unfold dm
  exact if_iff decide_eq_true_iff.symm _ _
 ·rw [(out_cache hr h2 hv).1]
  unfold outWant
  refine List.map_congr_left fun y hy=>?_
  rw [chains_get]
  unfold dms
  exact if_iff ((chain_last G (mem_intRange.mp hy)).symm.trans decide_eq_true_iff.symm) _ _
end
section
variable {S U T : Int → Int → Prop}
inductive Liv (S U : Int → Int → Prop) (d : Int) : Int → Prop
 | base {u : Int} : U d u → u ≠ d → Liv S U d u
 | step {u v : Int} : Liv S U d v → S u v → u ≠ d → Liv S U d u
noncomputable def Out (S U T : Int → Int → Prop) (p d : Int) : Prop:=T d p ∨ ∃ v,S p v ∧ Liv S U d v
structure Uses (S U T : Int → Int → Prop) : Prop where
 rng : ∀ {d u},U d u → (0 ≤ d ∧ d < 5) ∧ (0 ≤ u ∧ u < 5) ∧ ¬ Rch S d u
 tu : ∀ {d u},T d u → U d u
 ut : ∀ {d},U d d → T d d
variable {d e p q v : Int}
theorem Liv.ne (h : Liv S U d v) : v ≠ d:=by
 cases h with
 | base _ h=>exact h
 | step _ _ h=>exact h
theorem Liv.use (h : Liv S U d v) : ∃ u,U d u:=by
 induction h with
 | base h _=>exact ⟨_,h⟩
 | step _ _ _ ih=>exact ih
theorem Liv.dom (H : Uses S U T) (h : Liv S U d v) : ¬ Rch S d v:=by
 induction h with
 | base h _=>exact (H.rng h).2.2
 | step h e _ ih=>exact fun r=>ih (.step r e h.ne)
theorem Liv.rngs (G : Gr S) (H : Uses S U T) (h : Liv S U d v) : (0 ≤ d ∧ d < 5) ∧ (0 ≤ v ∧ v < 5):=by
 obtain ⟨u,hu⟩:=h.use
 refine ⟨(H.rng hu).1,?_⟩
 cases h with
 | base h _=>exact (H.rng h).2.1
 | step _ e _=>exact (G.edge e).1
theorem Out.liv (H : Uses S U T) (h : Out S U T p d) (hp : p ≠ d) : Liv S U d p:=by
 rcases h with h | ⟨v,e,h⟩
 ·exact .base (H.tu h) hp
 ·exact .step h e hp
theorem Out.dom (H : Uses S U T) (h : Out S U T p d) : ¬ Rch S d p:=by
 by_cases e : p = d
 ·subst e; exact not_self _
 ·exact (h.liv H e).dom H
theorem Out.rngs (G : Gr S) (H : Uses S U T) (h : Out S U T p d) : (0 ≤ d ∧ d < 5) ∧ (0 ≤ p ∧ p < 5):=by
 rcases h with h | ⟨v,e,h⟩
 ·exact ⟨(H.rng (H.tu h)).1,(H.rng (H.tu h)).2.1⟩
 ·exact ⟨(h.rngs G H).1,(G.edge e).1⟩
theorem liv_thru (G : Gr S) (H : Uses S U T) (he : 0 ≤ e ∧ e < 5) (hde : ¬ Rch S d e) (hr : Rch S (-1) v) : Liv S U d v → ¬ Rch S e v → v ≠ e → ∃ v',S e v' ∧ Liv S U d v':=by
 induction hr with
 | base _=>exact fun _ h2 h3=>absurd (.base h3) h2
 | @step u v hu es _ ih =>
  intro h1 h2 h3
  by_cases q : u = e
  ·subst q; exact ⟨v,es,h1⟩
  ·have h4 : ¬ Rch S e u:=fun r=>h2 (.step r es h3)
   by_cases qd : u = d
   ·subst qd
    have hd:=(h1.rngs G H).1
    have a:=G.dom_le he.1 he.2 hde
    have b:=G.dom_le hd.1 hd.2 h4
    lia
   ·exact ih (.step h1 es qd) h4 q
theorem Liv.self (G : Gr S) (H : Uses S U T) (h : Liv S U d v) : Out S U T d d :=
 .inr (liv_thru G H (h.rngs G H).1 (not_self d) (G.all (h.rngs G H).2.1 (h.rngs G H).2.2) h (h.dom H) h.ne)
theorem out_use (G : Gr S) (H : Uses S U T) : Out S U T d d ↔ ∃ u,U d u:=by
 constructor
 ·rintro (h | ⟨v,_,h⟩)
  ·exact ⟨d,H.tu h⟩
  ·exact h.use
 ·rintro ⟨u,h⟩
  by_cases e : u = d
  ·subst e; exact .inl (H.ut h)
  ·exact (Liv.base h e : Liv S U d u).self G H
theorem Out.self (G : Gr S) (H : Uses S U T) (h : Out S U T p d) : Out S U T d d:=by
 by_cases e : p = d
 ·subst e; exact h
 ·exact (h.liv H e).self G H
theorem out_meet (G : Gr S) (H : Uses S U T) (h1 : Out S U T q d) (h2 : Out S U T q e) (hlt : d < e) : Out S U T e d:=by
 have r1:=h1.rngs G H
 have r2:=h2.rngs G H
 by_cases hq : q = e
 ·subst hq; exact h1
 ·have hle:=G.dom_le r1.2.1 r1.2.2 (h2.dom H)
  exact .inr (liv_thru G H r2.1 (G.dom_lt r1.2.1 r1.2.2 (h1.dom H) (h2.dom H) r1.1.1 hlt) (G.all r1.2.1 r1.2.2) (h1.liv H (by lia)) (h2.dom H) hq)
end
noncomputable def gU (row : List Int) (d u : Int) : Prop:=∃ w ∈ lawWishes row,w.1 = d ∧ w.2.1 = u ∧ gT row w = 1
noncomputable def gTd (row : List Int) (d u : Int) : Prop:=∃ w ∈ lawWishes row,w.1 = d ∧ w.2.1 = u ∧ w.2.2 = 1 ∧ gT row w = 1
noncomputable abbrev gLiv (row : List Int) (d v : Int) : Prop:=Liv (Sof (lawSteps row)) (gU row) d v
noncomputable abbrev gOut (row : List Int) (p d : Int) : Prop:=Out (Sof (lawSteps row)) (gU row) (gTd row) p d
section
variable {row : List Int} {d u v p : Int}
theorem one_if {q : Prop} [Decidable q] : (if q then (1 : Int) else 0) = 1 ↔ q:=by
 by_cases h : q
 ·rw [if_pos h]; exact ⟨fun _=>h,fun _=>rfl⟩
 ·rw [if_neg h]; exact ⟨fun e=>(by cases e),fun e=>absurd e h⟩
theorem gT_one {w : Int × Int × Int} : gT row w = 1 ↔ w.1 ∈ chn (lawSteps row) w.2.1 ∧ (w.2.2 ≠ 1 → w.1 ≠ w.2.1):=by
 unfold gT
 by_cases e : w.2.2 = 1
 ·rw [if_pos e]
  unfold dm
  rw [one_if]
  exact ⟨fun h=>⟨h,fun n=>absurd e n⟩,fun h=>h.1⟩
 ·rw [if_neg e]
  unfold dms
  rw [one_if]
  exact ⟨fun h=>⟨h.1,fun _=>h.2⟩,fun h=>⟨h.1,h.2 e⟩⟩
theorem law_uses (hr : 6 ≤ row.length ∧ row.length ≤ 11) : Uses (Sof (lawSteps row)) (gU row) (gTd row):=by
 have G:=law_gr hr
 refine ⟨fun {d u}=>?_,fun {d u}=>?_,fun {d}=>?_⟩
 ·rintro ⟨w,hw,rfl,rfl,h⟩
  have h5:=(wishes_ok (row:=row)).2 w hw
  have hu : 0 ≤ w.2.1 ∧ w.2.1 < 5:=by lia
  exact ⟨by lia,hu,((mem_chn G hu w.1).mp (gT_one.mp h).1).2⟩
 ·rintro ⟨w,a,b,c,e,f⟩
  exact ⟨w,a,b,c,f⟩
 ·rintro ⟨w,a,rfl,c,f⟩
  refine ⟨w,a,rfl,c,?_,f⟩
  apply Classical.byContradiction
  intro n
  exact (gT_one.mp f).2 n c.symm
theorem mem_stays (hr : 6 ≤ row.length ∧ row.length ≤ 11) (hd : 0 ≤ d ∧ d < 5) : u ∈ (gStays row).getD d.toNat [] ↔ gTd row d u:=by
 unfold gStays lawStays
 rw [getD_range _ _ hd,List.mem_map]
 constructor
 ·rintro ⟨w,hw,rfl⟩
  obtain ⟨a,b⟩:=List.mem_filter.mp hw
  simp only [Bool.and_eq_true,decide_eq_true_eq,and_true] at b
  rw [chains_get] at b
  obtain ⟨b1,b2,b3⟩:=b
  exact ⟨w,a,b1,rfl,b2,gT_one.mpr ⟨by rw [b1]; exact b3,fun n=>absurd b2 n⟩⟩
 ·rintro ⟨w,a,rfl,rfl,b,f⟩
  refine ⟨w,List.mem_filter.mpr ⟨a,?_⟩,rfl⟩
  simp only [Bool.and_eq_true,decide_eq_true_eq,and_true]
  rw [chains_get]
  exact ⟨trivial,b,(gT_one.mp f).1⟩
theorem mem_reads (hr : 6 ≤ row.length ∧ row.length ≤ 11) (hd : 0 ≤ d ∧ d < 5) : u ∈ (gReads row).getD d.toNat [] ↔ ∃ w ∈ lawWishes row,w.1 = d ∧ w.2.1 = u ∧ w.2.2 ≠ 1 ∧ gT row w = 1:=by
 have G:=law_gr hr
 unfold gReads lawReads
 rw [getD_range _ _ hd,List.mem_map]
 constructor
 ·rintro ⟨w,hw,rfl⟩
  obtain ⟨a,b⟩:=List.mem_filter.mp hw
  simp only [Bool.and_eq_true,decide_eq_true_eq,and_true] at b
  rw [chains_get] at b
  obtain ⟨b1,b2,b3⟩:=b
  have h5:=(wishes_ok (row:=row)).2 w a
  have b3:=(chain_last G (by lia)).mp b3
  exact ⟨w,a,b1,rfl,by lia,gT_one.mpr ⟨by rw [b1]; exact b3.1,fun _=>by rw [b1]; exact b3.2⟩⟩
 ·rintro ⟨w,a,rfl,rfl,b,f⟩
  have h5:=(wishes_ok (row:=row)).2 w a
  refine ⟨w,List.mem_filter.mpr ⟨a,?_⟩,rfl⟩
  simp only [Bool.and_eq_true,decide_eq_true_eq,and_true]
  rw [chains_get]
  refine ⟨trivial,by lia,(chain_last G (by lia)).mpr ⟨(gT_one.mp f).1,(gT_one.mp f).2 b⟩⟩
theorem mem_uses (hr : 6 ≤ row.length ∧ row.length ≤ 11) (hd : 0 ≤ d ∧ d < 5) : u ∈ (gReads row).getD d.toNat [] ++ (gStays row).getD d.toNat [] ↔ gU row d u:=by
 rw [List.mem_append,mem_reads hr hd,mem_stays hr hd]
 constructor
 ·rintro (⟨w,a,b,c,e,f⟩ | ⟨w,a,b,c,e,f⟩) <;> exact ⟨w,a,b,c,f⟩
 ·rintro ⟨w,a,b,c,f⟩
  by_cases e : w.2.2 = 1
  ·exact .inr ⟨w,a,b,c,e,f⟩
  ·exact .inl ⟨w,a,b,c,e,f⟩
theorem ah_step (steps : List (Int × Int)) (maker : Int) (come : List Int) (k : Nat) (v : Int) : v ∈ ahCome steps maker come (k + 1) ↔ v ∈ ahCome steps maker come k ∨ ∃ x ∈ ahCome steps maker come k,(v,x) ∈ steps ∧ v ≠ maker:=by
 show v ∈ (ahCome steps maker come k ++ List.map _ (List.filter _ steps)) ↔ _
 rw [List.mem_append,List.mem_map]
 constructor
 ·rintro (h | ⟨p,hp,rfl⟩)
  ·exact .inl h
  ·obtain ⟨h1,h2⟩:=List.mem_filter.mp hp
   simp only [Bool.and_eq_true,decide_eq_true_eq,Bool.not_eq_true',decide_eq_false_iff_not] at h2
   exact .inr ⟨p.2,h2.1,h1,h2.2.1⟩
 ·rintro (h | ⟨x,h1,h2,h3⟩)
  ·exact .inl h
  ·by_cases q : v ∈ ahCome steps maker come k
   ·exact .inl q
   ·refine .inr ⟨(v,x),List.mem_filter.mpr ⟨h2,?_⟩,rfl⟩
    simp only [Bool.and_eq_true,decide_eq_true_eq,Bool.not_eq_true',decide_eq_false_iff_not]
    exact ⟨h1,h3,q,trivial⟩
theorem mem_alive (hr : 6 ≤ row.length ∧ row.length ≤ 11) (hd : 0 ≤ d ∧ d < 5) : v ∈ (gAlive row).getD d.toNat [] ↔ gLiv row d v:=by
 have G:=law_gr hr
 have H:=law_uses hr
 have hc : ∀ v,v ∈ ((gReads row).getD d.toNat [] ++ (gStays row).getD d.toNat []).filter (fun x2 : Int=>!decide (x2 = d)) ↔ gU row d v ∧ v ≠ d:=fun v=>by
  rw [List.mem_filter,mem_uses hr hd,Bool.not_eq_true',decide_eq_false_iff_not]
 unfold gAlive lawAlive
 rw [getD_range _ _ hd,List.map_id']
 generalize ((gReads row).getD d.toNat [] ++ (gStays row).getD d.toNat []).filter (fun x2 : Int=>!decide (x2 = d)) = come at hc ⊢
 constructor
 ·have : ∀ k v,v ∈ ahCome (lawSteps row) d come k → gLiv row d v:=by
   intro k
   induction k with
   | zero=>exact fun v hv=>by obtain ⟨a,b⟩:=(hc v).mp hv; exact .base a b
   | succ k ih =>
    intro v hv
    rcases (ah_step _ _ _ k v).mp hv with q | ⟨x,hx,e,hne⟩
    ·exact ih v q
    ·exact .step (ih x hx) e hne
  exact this 4 v
 ·intro hl
  have hcl:=grow_closed (R:=fun x v=>(v,x) ∈ lawSteps row ∧ v ≠ d) (ahCome (lawSteps row) d come) (fun k v=>ah_step _ _ _ k v) (fun x v e=>(G.edge e.1).1) (fun v hv=>(H.rng ((hc v).mp hv).1).2.1)
  have mono : ∀ k v,v ∈ ahCome (lawSteps row) d come k → v ∈ ahCome (lawSteps row) d come (k + 1):=fun k v h=>(ah_step _ _ _ k v).mpr (.inl h)
  induction hl with
  | base h hne=>exact mono 3 _ (mono 2 _ (mono 1 _ (mono 0 _ ((hc _).mpr ⟨h,hne⟩))))
  | step _ e hne ih=>exact hcl _ _ ih ⟨e,hne⟩
theorem mem_ends (hr : 6 ≤ row.length ∧ row.length ≤ 11) (hp : 0 ≤ p ∧ p < 5) : d ∈ (gEnds row).getD p.toNat [] ↔ gOut row p d:=by
 have G:=law_gr hr
 have H:=law_uses hr
 have key : 0 ≤ d ∧ d < 5 → ((decide (p ∈ (gStays row).getD d.toNat []) || ((!decide ((List.map (fun x3 : Int × Int=>x3.2) (List.filter (fun x3 : Int × Int=>((decide (x3.1 = p)) && ((decide (x3.2 ∈ (gAlive row).getD d.toNat [])) && true))) (lawSteps row))) = [])) || false)) = true ↔ gOut row p d):=fun hd=>by
  rw [Bool.or_eq_true,decide_eq_true_eq,mem_stays hr hd,Bool.or_false,Bool.not_eq_true',decide_eq_false_iff_not,List.map_eq_nil_iff,List.filter_eq_nil_iff]
  refine or_congr Iff.rfl ⟨fun h=>?_,fun ⟨v,e,h⟩ hn=>?_⟩
  ·apply Classical.byContradiction
   intro hn
   refine h fun q hq hb=>hn ⟨q.2,?_,?_⟩
   ·simp only [Bool.and_eq_true,decide_eq_true_eq,and_true] at hb
    rw [← hb.1]; exact hq
   ·simp only [Bool.and_eq_true,decide_eq_true_eq,and_true] at hb
    exact (mem_alive hr hd).mp hb.2
  ·refine hn (p,v) e ?_
   simp only [Bool.and_eq_true,decide_eq_true_eq,and_true]
   exact ⟨trivial,(mem_alive hr hd).mpr h⟩
 unfold gEnds lawEnds
 rw [getD_range _ _ hp,List.map_id',List.mem_filter,mem_intRange]
 exact ⟨fun ⟨a,b⟩=>(key a).mp b,fun h=>⟨(h.rngs G H).1,(key (h.rngs G H).1).mpr h⟩⟩
theorem ends_nodup (hp : 0 ≤ p ∧ p < 5) : ((gEnds row).getD p.toNat []).Nodup:=by
 unfold gEnds lawEnds
 rw [getD_range _ _ hp,List.map_id',range5]
 exact List.Pairwise.filter _ (by decide)
end
noncomputable def rowsOf (steps : List (Int × Int)) (l : List (Int × Int × Int)) : List (Str × Str):=l.map fun t=>(lawCall t.1 t.2.1,gN steps t.2.2)
noncomputable def Has (l : List (Int × Int × Int)) (v d : Int) : Prop:=∃ t ∈ l,t.1 = v ∧ t.2.2 = d
structure Tab (l : List (Int × Int × Int)) : Prop where
 rng : ∀ t ∈ l,(0 ≤ t.1 ∧ t.1 < 5) ∧ (0 ≤ t.2.2 ∧ t.2.2 < 5)
 nd : l.Pairwise fun t t'=>¬ (t.1 = t'.1 ∧ t.2.2 = t'.2.2)
theorem has_snoc {l : List (Int × Int × Int)} {t : Int × Int × Int} {v d : Int} : Has (l ++ [t]) v d ↔ Has l v d ∨ (t.1 = v ∧ t.2.2 = d):=by
 unfold Has
 constructor
 ·rintro ⟨q,hq,h⟩
  rcases List.mem_append.mp hq with hq | hq
  ·exact .inl ⟨q,hq,h⟩
  ·rw [List.mem_singleton.mp hq] at h; exact .inr h
 ·rintro (⟨q,hq,h⟩ | h)
  ·exact ⟨q,List.mem_append_left _ hq,h⟩
  ·exact ⟨t,List.mem_append_right _ List.mem_cons_self,h⟩
theorem Tab.snoc {l : List (Int × Int × Int)} (h : Tab l) {t : Int × Int × Int} (h1 : 0 ≤ t.1 ∧ t.1 < 5) (h2 : 0 ≤ t.2.2 ∧ t.2.2 < 5) (hn : ¬ Has l t.1 t.2.2) : Tab (l ++ [t]):=by
 refine ⟨fun q hq=>?_,List.pairwise_append.mpr ⟨h.nd,List.pairwise_singleton _ _,fun a ha b hb e=>?_⟩⟩
 ·rcases List.mem_append.mp hq with hq | hq
  ·exact h.rng q hq
  ·rw [List.mem_singleton.mp hq]; exact ⟨h1,h2⟩
 ·rw [List.mem_singleton.mp hb] at e
  exact hn ⟨a,ha,e⟩
section
variable {row : List Int} {is1 is2 : List Addr} {l : List (Int × Int × Int)} {v d : Int} {nm : Str}
theorem tab_all (h : Tab l) (hv : 0 ≤ v ∧ v < 5) (e : Txt.lower nm = baseC v) : getAll (rowsOf (lawSteps row) l) nm = (l.filter fun t=>decide (t.1 = v)).map fun t=>gN (lawSteps row) t.2.2 :=
 getAll_rows (ky:=fun t : Int × Int × Int=>t.1) (km:=fun t=>t.2.1) (f:=fun t=>gN (lawSteps row) t.2.2) (fun t ht=>(h.rng t ht).1) hv e
theorem tab_mem (G : Gr (Sof (lawSteps row))) (h : Tab l) (hv : 0 ≤ v ∧ v < 5) (e : Txt.lower nm = baseC v) (s : Str) : s ∈ getAll (rowsOf (lawSteps row) l) nm ↔ ∃ d,(0 ≤ d ∧ d < 5) ∧ Has l v d ∧ s = gN (lawSteps row) d:=by
 rw [tab_all h hv e,List.mem_map]
 constructor
 ·rintro ⟨t,ht,rfl⟩
  obtain ⟨a,b⟩:=List.mem_filter.mp ht
  exact ⟨t.2.2,(h.rng t a).2,⟨t,a,of_decide_eq_true b,rfl⟩,rfl⟩
 ·rintro ⟨d,hd,⟨t,a,b,rfl⟩,rfl⟩
  exact ⟨t,List.mem_filter.mpr ⟨a,decide_eq_true b⟩,rfl⟩
theorem tab_memN (G : Gr (Sof (lawSteps row))) (h : Tab l) (hv : 0 ≤ v ∧ v < 5) (e : Txt.lower nm = baseC v) (hd : 0 ≤ d ∧ d < 5) : gN (lawSteps row) d ∈ getAll (rowsOf (lawSteps row) l) nm ↔ Has l v d:=by
 rw [tab_mem G h hv e]
 exact ⟨fun ⟨d',h1,h2,h3⟩=>by rw [gN_inj G hd h1 h3]; exact h2,fun q=>⟨d,hd,q,rfl⟩⟩
theorem tab_nodup (G : Gr (Sof (lawSteps row))) (h : Tab l) (hv : 0 ≤ v ∧ v < 5) (e : Txt.lower nm = baseC v) : (getAll (rowsOf (lawSteps row) l) nm).Nodup:=by
 rw [tab_all h hv e]
 refine List.Pairwise.map _ (fun a b hab=>hab) ((List.Pairwise.filter _ h.nd).imp_of_mem fun {a b} ha hb hne e=>?_)
 obtain ⟨a1,a2⟩:=List.mem_filter.mp ha
 obtain ⟨b1,b2⟩:=List.mem_filter.mp hb
 exact hne ⟨(of_decide_eq_true a2).trans (of_decide_eq_true b2).symm,gN_inj G (h.rng a a1).2 (h.rng b b1).2 e⟩
noncomputable abbrev lE (row : List Int) (is1 is2 : List Addr) (w : Int × Int × Int) : LEnv:=wE (gEnv row is1 is2) w
variable {w : Int × Int × Int} {sp : List Int} {p u : Int}
theorem ly_nm (hd : 0 ≤ w.1 ∧ w.1 < 5) : lyNm (lE row is1 is2 w) = gN (lawSteps row) w.1:=names_get hd
theorem ly_p (G : Gr (Sof (lawSteps row))) (hd : 0 ≤ w.1 ∧ w.1 < 5) (hp : 0 ≤ p ∧ p < 5) : lyP (lE row is1 is2 w) sp (gN (lawSteps row) p) = if p ≠ w.1 ∧ p ∉ sp then sp ++ [p] else sp:=by
 unfold lyP
 rw [ly_nm hd]
 have e : (((lE row is1 is2 w).names.idxOf (gN (lawSteps row) p) : Nat) : Int) = p:=by
  show (((gNames row).idxOf (gN (lawSteps row) p) : Nat) : Int) = p
  rw [names_idx G hp]; lia
 rw [e]
 refine if_iff ?_ _ _
 rw [Bool.and_true,Bool.and_eq_true,Bool.not_eq_true',Bool.not_eq_true',decide_eq_false_iff_not,decide_eq_false_iff_not]
 exact and_congr ⟨fun h q=>h (by rw [q]),fun h q=>h (gN_inj G hp hd q)⟩ Iff.rfl
theorem ly_ps (G : Gr (Sof (lawSteps row))) (hd : 0 ≤ w.1 ∧ w.1 < 5) : ∀ (ps : List Int) (sp : List Int),(∀ p ∈ ps,0 ≤ p ∧ p < 5) → sp.Nodup → ∃ ex,(ps.map (gN (lawSteps row))).foldl (lyP (lE row is1 is2 w)) sp = sp ++ ex ∧ (sp ++ ex).Nodup ∧ ∀ u,u ∈ sp ++ ex ↔ u ∈ sp ∨ (u ∈ ps ∧ u ≠ w.1)
 | [],sp,_,hn=>⟨[],by simp,by simpa using hn,fun u=>by simp⟩
 | p :: ps,sp,h5,hn=>by
  have hp:=h5 p List.mem_cons_self
  have hr:=fun q hq=>h5 q (List.mem_cons_of_mem _ hq)
  rw [List.map_cons,List.foldl_cons,ly_p G hd hp]
  by_cases q : p ≠ w.1 ∧ p ∉ sp
  ·rw [if_pos q]
   have hn' : (sp ++ [p]).Nodup:=List.nodup_append.mpr ⟨hn,List.pairwise_singleton _ _,fun x hx y hy e=>q.2 (by rw [List.mem_singleton.mp hy] at e; rw [← e]; exact hx)⟩
   obtain ⟨ex,e1,e2,e3⟩:=ly_ps G hd ps (sp ++ [p]) hr hn'
   refine ⟨p :: ex,?_,?_,fun u=>?_⟩
   ·rw [e1,List.append_assoc]; rfl
   ·rw [List.append_assoc] at e2; exact e2
   ·have:=e3 u
    rw [List.append_assoc] at this
    rw [show sp ++ p :: ex = sp ++ ([p] ++ ex) from rfl,this,List.mem_append,List.mem_singleton,List.mem_cons]
    constructor
    ·rintro ((a | a) | a)
     ·exact .inl a
     ·subst a; exact .inr ⟨.inl rfl,q.1⟩
     ·exact .inr ⟨.inr a.1,a.2⟩
    ·rintro (a | ⟨a | a,b⟩)
     ·exact .inl (.inl a)
     ·exact .inl (.inr a)
     ·exact .inr ⟨a,b⟩
  ·rw [if_neg q]
   obtain ⟨ex,e1,e2,e3⟩:=ly_ps G hd ps sp hr hn
   refine ⟨ex,e1,e2,fun u=>?_⟩
   rw [e3,List.mem_cons]
   constructor
   ·rintro (a | ⟨a,b⟩)
    ·exact .inl a
    ·exact .inr ⟨.inr a,b⟩
   ·rintro (a | ⟨a | a,b⟩)
    ·exact .inl a
    ·subst a
     by_cases m : u ∈ sp
     ·exact .inl m
     ·exact absurd ⟨b,m⟩ q
    ·exact .inr ⟨a,b⟩
structure LI (row : List Int) (d pl : Int) (l0 : List (Int × Int × Int)) (k : Nat) (sp : List Int) (l : List (Int × Int × Int)) : Prop where
 nd : sp.Nodup
 rng : ∀ s ∈ sp,0 ≤ s ∧ s < 5
 pl : pl ∈ sp
 tab : Tab l
 ext : ∀ v e,Has l0 v e → Has l v e
 sub : ∀ v e,e ≠ d → Has l v e → Has l0 v e
 fin : ∀ s ∈ sp.take k,Has l s d
 back : ∀ s ∈ sp,gLiv row d s
 lv : ∀ v,Has l v d → gLiv row d v
 clo : ∀ v u,Has l v d → (u,v) ∈ lawSteps row → u ≠ d → Has l u d ∨ u ∈ sp
theorem LI.at (hr : 6 ≤ row.length ∧ row.length ≤ 11) (hd : 0 ≤ w.1 ∧ w.1 < 5) {l0 : List (Int × Int × Int)} {k : Nat} (h : LI row w.1 w.2.1 l0 k sp l) {s kk : Int} (hs : sp[k]? = some s) : ∃ sp' l',lyAt (lE row is1 is2 w) kk ⟨sp,rowsOf (lawSteps row) l⟩ s = ⟨sp',rowsOf (lawSteps row) l'⟩ ∧ LI row w.1 w.2.1 l0 (k + 1) sp' l':=by
 have G:=law_gr hr
 have hsm:=List.mem_of_getElem? hs
 have hs5:=h.rng s hsm
 have hkl:=(List.getElem?_eq_some_iff.mp hs).1
 unfold lyAt
 rw [ly_nm hd]
 show ∃ sp' l',(if (!decide (_ ∈ getAll (rowsOf (lawSteps row) l) _)) = true then _ else _) = _ ∧ _
 by_cases q : Has l s w.1
 ·rw [if_neg]
  ·refine ⟨sp,l,rfl,h.nd,h.rng,h.pl,h.tab,h.ext,h.sub,fun z hz=>?_,h.back,h.lv,h.clo⟩
   rw [take_snoc hs] at hz
   rcases List.mem_append.mp hz with hz | hz
   ·exact h.fin z hz
   ·rw [List.mem_singleton.mp hz]; exact q
  ·rw [decide_eq_true ((tab_memN G h.tab hs5 (call_lower hs5 21) hd).mpr q)]; decide
 ·rw [if_pos]
  ·have hps : ∀ p ∈ psOf row s,0 ≤ p ∧ p < 5:=fun p hp=>(G.edge ((mem_ps hr).mp hp)).1
   obtain ⟨ex,e1,e2,e3⟩:=ly_ps (is1:=is1) (is2:=is2) G hd (psOf row s) sp hps h.nd
   have eh : getAll (lE row is1 is2 w).heads (lawCall s 10) = (psOf row s).map (gN (lawSteps row)):=heads_all (is1:=is1) (is2:=is2) hr hs5 (call_lower hs5 10)
   refine ⟨sp ++ ex,l ++ [(s,w.1 + w.2.1 + kk,w.1)],?_,e2,fun z hz=>?_,List.mem_append_left _ h.pl,h.tab.snoc hs5 hd q,fun v e hv=>has_snoc.mpr (.inl (h.ext v e hv)),fun v e hne hv=>?_,fun z hz=>?_,fun z hz=>?_,fun v hv=>?_,fun v u hv e hne=>?_⟩
   ·rw [eh,e1]
    unfold rowsOf
    rw [List.map_append]; rfl
   ·rcases (e3 z).mp hz with a | ⟨a,_⟩
    ·exact h.rng z a
    ·exact hps z a
   ·rcases has_snoc.mp hv with a | ⟨_,a⟩
    ·exact h.sub v e hne a
    ·exact absurd a.symm hne
   ·rw [List.take_append_of_le_length (by lia),take_snoc hs] at hz
    refine has_snoc.mpr ?_
    rcases List.mem_append.mp hz with hz | hz
    ·exact .inl (h.fin z hz)
    ·rw [List.mem_singleton.mp hz]; exact .inr ⟨rfl,rfl⟩
   ·rcases (e3 z).mp hz with a | ⟨a,b⟩
    ·exact h.back z a
    ·exact .step (h.back s hsm) ((mem_ps hr).mp a) b
   ·rcases has_snoc.mp hv with a | ⟨a,_⟩
    ·exact h.lv v a
    ·have a : s = v:=a
     rw [← a]; exact h.back s hsm
   ·rcases has_snoc.mp hv with a | ⟨a,_⟩
    ·rcases h.clo v u a e hne with b | b
     ·exact .inl (has_snoc.mpr (.inl b))
     ·exact .inr ((e3 u).mpr (.inl b))
    ·have a : s = v:=a
     rw [← a] at e
     exact .inr ((e3 u).mpr (.inr ⟨(mem_ps hr).mpr e,hne⟩))
  ·rw [decide_eq_false (fun m=>q ((tab_memN G h.tab hs5 (call_lower hs5 21) hd).mp m))]; rfl
theorem LI.turn (hr : 6 ≤ row.length ∧ row.length ≤ 11) (hd : 0 ≤ w.1 ∧ w.1 < 5) {l0 : List (Int × Int × Int)} {k : Nat} (h : LI row w.1 w.2.1 l0 k sp l) : ∃ sp' l',lyTurn (lE row is1 is2 w) ⟨sp,rowsOf (lawSteps row) l⟩ (k : Int) = ⟨sp',rowsOf (lawSteps row) l'⟩ ∧ LI row w.1 w.2.1 l0 (k + 1) sp' l':=by
 unfold lyTurn
 rw [pySlice_one _ _ (by lia)]
 show ∃ sp' l',List.foldl _ _ ((sp.drop k).take 1) = _ ∧ _
 cases e : sp[k]? with
 | none =>
  have hl : sp.length ≤ k:=List.getElem?_eq_none_iff.mp e
  rw [List.drop_eq_nil_of_le hl,List.take_nil]
  refine ⟨sp,l,rfl,h.nd,h.rng,h.pl,h.tab,h.ext,h.sub,fun z hz=>h.fin z ?_,h.back,h.lv,h.clo⟩
  rw [List.take_of_length_le (by lia)] at hz
  rw [List.take_of_length_le hl]; exact hz
 | some s =>
  obtain ⟨hk,es⟩:=List.getElem?_eq_some_iff.mp e
  rw [List.drop_eq_getElem_cons hk,List.take_succ_cons,List.take_zero,es]
  exact h.at hr hd e
theorem LI.all (hr : 6 ≤ row.length ∧ row.length ≤ 11) (hd : 0 ≤ w.1 ∧ w.1 < 5) {l0 : List (Int × Int × Int)} (h : LI row w.1 w.2.1 l0 0 sp l) : ∃ sp' l',lyAll (lE row is1 is2 w) ⟨sp,rowsOf (lawSteps row) l⟩ = ⟨sp',rowsOf (lawSteps row) l'⟩ ∧ LI row w.1 w.2.1 l0 5 sp' l':=by
 unfold lyAll
 rw [range5]
 simp only [List.foldl_cons,List.foldl_nil]
 obtain ⟨s1,l1,e1,h1⟩:=h.turn (is1:=is1) (is2:=is2) hr hd
 obtain ⟨s2,l2,e2,h2⟩:=h1.turn (is1:=is1) (is2:=is2) hr hd
 obtain ⟨s3,l3,e3,h3⟩:=h2.turn (is1:=is1) (is2:=is2) hr hd
 obtain ⟨s4,l4,e4,h4⟩:=h3.turn (is1:=is1) (is2:=is2) hr hd
 obtain ⟨s5,l5,e5,h5⟩:=h4.turn (is1:=is1) (is2:=is2) hr hd
 refine ⟨s5,l5,?_,h5⟩
 rw [← e5,← e4,← e3,← e2,← e1]
 rfl
theorem nodup_le : ∀ (k : Nat) {l : List Int},l.Nodup → (∀ x ∈ l,0 ≤ x ∧ x < (k : Int)) → l.length ≤ k
 | 0,l,_,h=>by
  cases l with
  | nil=>exact Nat.le_refl _
  | cons a l=>have:=h a List.mem_cons_self; lia
 | k + 1,l,hn,h=>by
  have h1:=nodup_le k (l:=l.erase (k : Int)) (hn.erase _) (fun x hx=>by
   have hm:=List.mem_of_mem_erase hx
   have:=h x hm
   have hne : x ≠ (k : Int):=fun e=>by
    rw [e] at hx
    exact (List.Nodup.mem_erase_iff hn).mp hx |>.1 rfl
   lia)
  have h3 : l.length ≤ (l.erase (k : Int)).length + 1:=by
   by_cases hm : (k : Int) ∈ l
   ·rw [List.length_erase_of_mem hm]; lia
   ·rw [List.erase_of_not_mem hm]; lia
  lia
structure WI (row : List Int) (ws : List (Int × Int × Int)) (l ll : List (Int × Int × Int)) : Prop where
 tab : Tab l
 tab2 : Tab ll
 lv : ∀ v e,Has l v e → gLiv row e v
 clo : ∀ v u e,Has l v e → (u,v) ∈ lawSteps row → u ≠ e → Has l u e
 us : ∀ w ∈ ws,gT row w = 1 → w.2.1 ≠ w.1 → Has l w.2.1 w.1
 ts : ∀ v e,Has ll v e ↔ ∃ w ∈ ws,w.1 = e ∧ w.2.1 = v ∧ w.2.2 = 1 ∧ gT row w = 1
theorem WI.live (hr : 6 ≤ row.length ∧ row.length ≤ 11) {ws : List (Int × Int × Int)} {ll : List (Int × Int × Int)} (h : WI row ws l ll) (hw : w ∈ lawWishes row) : ∃ l',wLive (gEnv row is1 is2) (gT row) (rowsOf (lawSteps row) l) w = rowsOf (lawSteps row) l' ∧ Tab l' ∧ (∀ v e,Has l' v e → gLiv row e v) ∧ (∀ v u e,Has l' v e → (u,v) ∈ lawSteps row → u ≠ e → Has l' u e) ∧ (∀ v e,Has l v e → Has l' v e) ∧ (gT row w = 1 → w.2.1 ≠ w.1 → Has l' w.2.1 w.1):=by
 have G:=law_gr hr
 have H:=law_uses hr
 have h5:=(wishes_ok (row:=row)).2 w hw
 have hd : 0 ≤ w.1 ∧ w.1 < 5:=by lia
 unfold wLive
 by_cases q : gT row w = 1 ∧ w.1 ≠ w.2.1
 ·rw [if_pos (by rw [decide_eq_true q.1,decide_eq_false q.2]; rfl)]
  have hu : gLiv row w.1 w.2.1:=.base ⟨w,hw,rfl,rfl,q.1⟩ fun e=>q.2 e.symm
  have h0 : LI row w.1 w.2.1 l 0 [w.2.1] l:=⟨List.pairwise_singleton _ _,fun s hs=>by rw [List.mem_singleton.mp hs]; lia,List.mem_cons_self,h.tab,fun _ _ a=>a,fun _ _ _ a=>a,fun s hs=>by simp at hs,fun s hs=>by rw [List.mem_singleton.mp hs]; exact hu,fun v a=>h.lv v _ a,fun v u a e hne=>.inl (h.clo v u _ a e hne)⟩
  obtain ⟨sp',l',e1,h1⟩:=h0.all (is1:=is1) (is2:=is2) hr hd
  have hsl : sp'.length ≤ 5:=nodup_le 5 h1.nd h1.rng
  have hf:=h1.fin
  rw [List.take_of_length_le hsl] at hf
  refine ⟨l',by rw [e1],h1.tab,fun v e a=>?_,fun v u e a s hne=>?_,h1.ext,fun _ _=>hf _ h1.pl⟩
  ·by_cases qe : e = w.1
   ·subst qe; exact h1.lv v a
   ·exact h.lv v e (h1.sub v e qe a)
  ·by_cases qe : e = w.1
   ·subst qe
    rcases h1.clo v u a s hne with b | b
    ·exact b
    ·exact hf u b
   ·exact h1.ext u e (h.clo v u e (h1.sub v e qe a) s hne)
 ·rw [if_neg]
  ·exact ⟨l,rfl,h.tab,h.lv,h.clo,fun _ _ a=>a,fun a b=>absurd ⟨a,fun e=>b e.symm⟩ q⟩
  ·intro a
   simp only [Bool.and_eq_true,decide_eq_true_eq,Bool.not_eq_true',decide_eq_false_iff_not,and_true] at a
   exact q a
theorem WI.last (hr : 6 ≤ row.length ∧ row.length ≤ 11) {ll : List (Int × Int × Int)} (h : Tab ll) (hw : w ∈ lawWishes row) : ∃ l',wLast (gNames row) (gT row) (rowsOf (lawSteps row) ll) w = rowsOf (lawSteps row) l' ∧ Tab l' ∧ ∀ v e,Has l' v e ↔ Has ll v e ∨ (w.1 = e ∧ w.2.1 = v ∧ w.2.2 = 1 ∧ gT row w = 1):=by
 have G:=law_gr hr
 have h5:=(wishes_ok (row:=row)).2 w hw
 have hd : 0 ≤ w.1 ∧ w.1 < 5:=by lia
 have hp : 0 ≤ w.2.1 ∧ w.2.1 < 5:=by lia
 have hm:=tab_memN (nm:=lawCall w.2.1 12) G h hp (call_lower hp 12) hd
 unfold wLast
 rw [names_get hd]
 by_cases q : (gT row w = 1 ∧ w.2.2 = 1) ∧ ¬ Has ll w.2.1 w.1
 ·rw [if_pos (by rw [decide_eq_true q.1.1,decide_eq_true q.1.2,decide_eq_false (fun a=>q.2 (hm.mp a))]; rfl)]
  refine ⟨ll ++ [(w.2.1,w.1,w.1)],by unfold rowsOf; rw [List.map_append]; rfl,h.snoc hp hd q.2,fun v e=>?_⟩
  rw [has_snoc]
  exact or_congr Iff.rfl ⟨fun ⟨a,b⟩=>⟨b,a,q.1.2,q.1.1⟩,fun ⟨a,b,_⟩=>⟨b,a⟩⟩
 ·rw [if_neg]
  ·refine ⟨ll,rfl,h,fun v e=>⟨.inl,fun a=>a.elim id fun ⟨a,b,c,f⟩=>?_⟩⟩
   apply Classical.byContradiction
   intro n
   exact q ⟨⟨f,c⟩,by rw [a,b]; exact n⟩
  ·intro a
   simp only [Bool.and_eq_true,decide_eq_true_eq,Bool.not_eq_true',decide_eq_false_iff_not,and_true] at a
   exact q ⟨⟨a.1,a.2.1⟩,fun n=>a.2.2 (hm.mpr n)⟩
theorem wi_all (hr : 6 ≤ row.length ∧ row.length ≤ 11) : ∀ (ws done : List (Int × Int × Int)) {l ll : List (Int × Int × Int)},(∀ w ∈ ws,w ∈ lawWishes row) → WI row done l ll → ∃ l' ll',ws.foldl (wLive (gEnv row is1 is2) (gT row)) (rowsOf (lawSteps row) l) = rowsOf (lawSteps row) l' ∧ ws.foldl (wLast (gNames row) (gT row)) (rowsOf (lawSteps row) ll) = rowsOf (lawSteps row) ll' ∧ WI row (done ++ ws) l' ll'
 | [],done,l,ll,_,h=>⟨l,ll,rfl,rfl,by rw [List.append_nil]; exact h⟩
 | w :: ws,done,l,ll,hw,h=>by
  have hw0:=hw w List.mem_cons_self
  obtain ⟨l1,e1,a1,a2,a3,a4,a5⟩:=h.live (is1:=is1) (is2:=is2) hr hw0
  obtain ⟨m1,e2,b1,b2⟩:=WI.last hr h.tab2 hw0
  have hW : WI row (done ++ [w]) l1 m1:=by
   refine ⟨a1,b1,a2,a3,fun z hz=>?_,fun v e=>?_⟩
   ·rcases List.mem_append.mp hz with hz | hz
    ·exact fun c f=>a4 _ _ (h.us z hz c f)
    ·rw [List.mem_singleton.mp hz]; exact a5
   ·rw [b2,h.ts]
    constructor
    ·rintro (⟨z,hz,c⟩ | c)
     ·exact ⟨z,List.mem_append_left _ hz,c⟩
     ·exact ⟨w,List.mem_append_right _ List.mem_cons_self,c⟩
    ·rintro ⟨z,hz,c⟩
     rcases List.mem_append.mp hz with hz | hz
     ·exact .inl ⟨z,hz,c⟩
     ·rw [List.mem_singleton.mp hz] at c; exact .inr c
  obtain ⟨l2,m2,f1,f2,f3⟩:=wi_all hr ws (done ++ [w]) (fun z hz=>hw z (List.mem_cons_of_mem _ hz)) hW
  refine ⟨l2,m2,?_,?_,?_⟩
  ·rw [List.foldl_cons,e1,f1]
  ·rw [List.foldl_cons,e2,f2]
  ·rw [List.append_assoc] at f3; exact f3
structure Laid (row : List Int) (live last : List (Str × Str)) (l ll : List (Int × Int × Int)) : Prop where
 e1 : live = rowsOf (lawSteps row) l
 e2 : last = rowsOf (lawSteps row) ll
 t1 : Tab l
 t2 : Tab ll
 m1 : ∀ v d,Has l v d ↔ gLiv row d v
 m2 : ∀ v d,Has ll v d ↔ gTd row d v
theorem laid (hr : 6 ≤ row.length ∧ row.length ≤ 11) (is1 is2 : List Addr) : ∃ l ll,Laid row (gSt row is1 is2).live (gSt row is1 is2).last l ll:=by
 obtain ⟨l,ll,e1,e2,h⟩:=wi_all (is1:=is1) (is2:=is2) hr (lawWishes row) [] (l:=[]) (ll:=[]) (fun w hw=>hw) ⟨⟨fun t h=>(nomatch h),.nil⟩,⟨fun t h=>(nomatch h),.nil⟩,fun v e ⟨t,h,_⟩=>(nomatch h),fun v u e ⟨t,h,_⟩=>(nomatch h),fun w h=>(nomatch h),fun v e=>⟨fun ⟨t,h,_⟩=>(nomatch h),fun ⟨t,h,_⟩=>(nomatch h)⟩⟩
 refine ⟨l,ll,e1,e2,h.tab,h.tab2,fun v d=>⟨h.lv v d,fun hl=>?_⟩,fun v d=>by rw [h.ts]; exact Iff.rfl⟩
 induction hl with
 | base hu hne =>
  obtain ⟨w,a,rfl,rfl,f⟩:=hu
  exact h.us w a f hne
 | step _ e hne ih=>exact h.clo _ _ _ ih e hne
end
theorem bxRow_mem (s : Str) : ∀ (r out : List Str),s ∈ bxRow out r ↔ s ∈ out ∨ s ∈ r
 | [],out=>by simp [bxRow]
 | x :: r,out=>by
  show s ∈ bxRow (bxOne out x) r ↔ _
  rw [bxRow_mem s r,List.mem_cons]
  unfold bxOne
  by_cases q : x ∈ out
  ·rw [if_neg (by rw [decide_eq_true q]; decide)]
   exact ⟨fun h=>h.imp id .inr,fun h=>h.elim .inl fun h=>h.elim (fun e=>.inl (e ▸ q)) .inr⟩
  ·rw [if_pos (by rw [decide_eq_false q]; rfl),List.mem_append,List.mem_singleton,or_assoc]
theorem bxRow_nodup : ∀ (r out : List Str),out.Nodup → (bxRow out r).Nodup
 | [],out,h=>h
 | x :: r,out,h=>by
  refine bxRow_nodup r (bxOne out x) ?_
  unfold bxOne
  by_cases q : x ∈ out
  ·rw [if_neg (by rw [decide_eq_true q]; decide)]; exact h
  ·rw [if_pos (by rw [decide_eq_false q]; rfl)]
   exact List.nodup_append.mpr ⟨h,List.pairwise_singleton _ _,fun a ha b hb e=>q (by rw [List.mem_singleton.mp hb] at e; rw [← e]; exact ha)⟩
theorem bxRows_mem (s : Str) : ∀ (rs : List (List Str)) (out : List Str),s ∈ rs.foldl bxRow out ↔ s ∈ out ∨ ∃ r ∈ rs,s ∈ r
 | [],out=>by simp
 | x :: rs,out=>by
  rw [List.foldl_cons,bxRows_mem s rs,bxRow_mem,or_assoc]
  refine or_congr Iff.rfl ⟨fun h=>?_,fun ⟨r,a,b⟩=>?_⟩
  ·rcases h with h | ⟨r,a,b⟩
   ·exact ⟨x,List.mem_cons_self,h⟩
   ·exact ⟨r,List.mem_cons_of_mem _ a,b⟩
  ·rcases List.mem_cons.mp a with e | a
   ·exact .inl (e ▸ b)
   ·exact .inr ⟨r,a,b⟩
theorem bxRows_nodup : ∀ (rs : List (List Str)) (out : List Str),out.Nodup → (rs.foldl bxRow out).Nodup
 | [],out,h=>h
 | x :: rs,out,h=>bxRows_nodup rs _ (bxRow_nodup x out h)
section
variable {row : List Int} {is1 is2 : List Addr} {l ll : List (Int × Int × Int)} {p d v : Int}
noncomputable abbrev gB (row : List Int) (is1 is2 : List Addr) : BEnv:=bE (gEnv row is1 is2) (gSt row is1 is2) (lawSteps row)
theorem names_map {A : List Int} (h : ∀ a ∈ A,0 ≤ a ∧ a < 5) : A.map (fun x : Int=>(gNames row).getD x.toNat Str.empty) = A.map (gN (lawSteps row)):=List.map_congr_left fun a ha=>names_get (h a ha)
theorem gn_nodup (G : Gr (Sof (lawSteps row))) {A : List Int} (hn : A.Nodup) (h : ∀ a ∈ A,0 ≤ a ∧ a < 5) : (A.map (gN (lawSteps row))).Nodup :=
 List.Pairwise.map _ (fun a b hab=>hab) (hn.imp_of_mem fun {a b} ha hb hne e=>hne (gN_inj G (h a ha) (h b hb) e))
theorem gn_perm (G : Gr (Sof (lawSteps row))) {A : List Int} {L : List Str} (hL : L.Nodup) (hn : A.Nodup) (h : ∀ a ∈ A,0 ≤ a ∧ a < 5) (hm : ∀ s,s ∈ L ↔ ∃ d,d ∈ A ∧ s = gN (lawSteps row) d) : L.Perm (A.map (gN (lawSteps row))):=by
 rw [List.perm_ext_iff_of_nodup hL (gn_nodup G hn h)]
 intro s
 rw [hm,List.mem_map]
 exact ⟨fun ⟨d,a,b⟩=>⟨d,a,b.symm⟩,fun ⟨d,a,b⟩=>⟨d,a,b.symm⟩⟩
theorem tab_sort (G : Gr (Sof (lawSteps row))) (ht : Tab l) {f : List (List Int)} {nm : Str} (hv : 0 ≤ v ∧ v < 5) (e : Txt.lower nm = baseC v) (hm : ∀ d,0 ≤ d ∧ d < 5 → (Has l v d ↔ v ∈ f.getD d.toNat [])) : sortS (getAll (rowsOf (lawSteps row) l) nm) = sortS (liveWant (gNames row) f v):=by
 refine sortS_eq ?_
 unfold liveWant
 have hr : ∀ a ∈ (intRange 0 5).filter (fun x1 : Int=>decide (v ∈ f.getD x1.toNat [])),0 ≤ a ∧ a < 5:=fun a ha=>mem_intRange.mp (List.mem_filter.mp ha).1
 rw [names_map hr]
 refine gn_perm G (tab_nodup G ht hv e) (List.Pairwise.filter _ (by rw [range5]; decide)) hr fun s=>?_
 rw [tab_mem G ht hv e]
 refine exists_congr fun d=>?_
 rw [List.mem_filter,mem_intRange,decide_eq_true_eq]
 exact ⟨fun ⟨a,b,c⟩=>⟨⟨a,(hm d a).mp b⟩,c⟩,fun ⟨⟨a,b⟩,c⟩=>⟨a,(hm d a).mpr b,c⟩⟩
theorem law_live (hr : 6 ≤ row.length ∧ row.length ≤ 11) (is1 is2 : List Addr) (hv : 0 ≤ v ∧ v < 5) : LawLive (gNames row) (gSt row is1 is2).live (gSt row is1 is2).last (gStays row) (gAlive row) v:=by
 have G:=law_gr hr
 obtain ⟨l,ll,h⟩:=laid hr is1 is2
 refine ⟨?_,?_⟩
 ·rw [h.e1]
  exact tab_sort G h.t1 hv (call_lower hv 10) fun d hd=>by rw [h.m1,mem_alive hr hd]
 ·rw [h.e2]
  exact tab_sort G h.t2 hv (call_lower hv 17) fun d hd=>by rw [h.m2,mem_stays hr hd]
theorem out_mem (hr : 6 ≤ row.length ∧ row.length ≤ 11) (hp : 0 ≤ p ∧ p < 5) (s : Str) : s ∈ bxOut (gB row is1 is2) p ↔ ∃ d,gOut row p d ∧ s = gN (lawSteps row) d:=by
 have G:=law_gr hr
 have H:=law_uses hr
 obtain ⟨l,ll,h⟩:=laid hr is1 is2
 have e1 : ∀ x : Int × Int,x ∈ lawSteps row → (s ∈ getAll (gSt row is1 is2).live (lawCall x.2 9) ↔ ∃ d,gLiv row d x.2 ∧ s = gN (lawSteps row) d):=fun x hx=>by
  have hx5:=(lawSteps_ok hr).2 x hx
  rw [h.e1,tab_mem G h.t1 hx5.2 (call_lower hx5.2 9)]
  exact exists_congr fun d=>⟨fun ⟨_,b,c⟩=>⟨(h.m1 _ _).mp b,c⟩,fun ⟨b,c⟩=>⟨(b.rngs G H).1,(h.m1 _ _).mpr b,c⟩⟩
 have e2 : s ∈ getAll (gSt row is1 is2).last (lawCall p 6) ↔ ∃ d,gTd row d p ∧ s = gN (lawSteps row) d:=by
  rw [h.e2,tab_mem G h.t2 hp (call_lower hp 6)]
  exact exists_congr fun d=>⟨fun ⟨_,b,c⟩=>⟨(h.m2 _ _).mp b,c⟩,fun ⟨b,c⟩=>⟨(H.rng (H.tu b)).1,(h.m2 _ _).mpr b,c⟩⟩
 unfold bxOut
 rw [bxRows_mem]
 constructor
 ·rintro (q | ⟨r,hm,hs⟩)
  ·cases q
  ·rcases List.mem_append.mp hm with hm | hm
   ·rw [List.mem_singleton.mp hm] at hs
    obtain ⟨d,a,b⟩:=e2.mp hs
    exact ⟨d,.inl a,b⟩
   ·obtain ⟨x,hx,rfl⟩:=List.mem_map.mp hm
    obtain ⟨hx1,hx2⟩:=List.mem_filter.mp hx
    obtain ⟨d,a,b⟩:=(e1 x hx1).mp hs
    exact ⟨d,.inr ⟨x.2,by have:=of_decide_eq_true hx2; show (p,x.2) ∈ lawSteps row; rw [← this]; exact hx1,a⟩,b⟩
 ·rintro ⟨d,q | ⟨v,e,a⟩,b⟩
  ·exact .inr ⟨_,List.mem_append_left _ List.mem_cons_self,e2.mpr ⟨d,q,b⟩⟩
  ·exact .inr ⟨_,List.mem_append_right _ (List.mem_map.mpr ⟨(p,v),List.mem_filter.mpr ⟨e,decide_eq_true rfl⟩,rfl⟩),(e1 (p,v) e).mpr ⟨d,a,b⟩⟩
theorem out_memN (hr : 6 ≤ row.length ∧ row.length ≤ 11) (hp : 0 ≤ p ∧ p < 5) (hd : 0 ≤ d ∧ d < 5) : gN (lawSteps row) d ∈ bxOut (gB row is1 is2) p ↔ gOut row p d:=by
 have G:=law_gr hr
 rw [out_mem hr hp]
 exact ⟨fun ⟨d',a,b⟩=>by rw [gN_inj G hd (a.rngs G (law_uses hr)).1 b]; exact a,fun a=>⟨d,a,rfl⟩⟩
theorem out_nodup : (bxOut (gB row is1 is2) p).Nodup:=bxRows_nodup _ [] .nil
theorem out_perm (hr : 6 ≤ row.length ∧ row.length ≤ 11) (hp : 0 ≤ p ∧ p < 5) : (bxOut (gB row is1 is2) p).Perm (((gEnds row).getD p.toNat []).map (gN (lawSteps row))):=by
 have G:=law_gr hr
 refine gn_perm G out_nodup (ends_nodup hp) (fun d hd=>(((mem_ends hr hp).mp hd).rngs G (law_uses hr)).1) fun s=>?_
 rw [out_mem hr hp]
 exact exists_congr fun d=>by rw [mem_ends hr hp]
theorem ends_map : gEnds row = (intRange 0 5).map fun p=>(gEnds row).getD p.toNat []:=by
 conv=>lhs; unfold gEnds lawEnds
 refine List.map_congr_left fun p hp=>?_
 unfold gEnds lawEnds
 rw [getD_range _ _ (mem_intRange.mp hp)]
theorem law_outs (hr : 6 ≤ row.length ∧ row.length ≤ 11) : bxOuts (gB row is1 is2) 5 = endsWant (gEnv row is1 is2).names (gEnds row):=by
 have G:=law_gr hr
 unfold bxOuts endsWant
 rw [List.take_of_length_le (by rw [intRange_len]; decide)]
 conv=>rhs; rw [ends_map]
 rw [List.map_map]
 refine List.map_congr_left fun p hp=>?_
 have hp:=mem_intRange.mp hp
 show sortS _ = sortS (((gEnds row).getD p.toNat []).map fun x2 : Int=>(gNames row).getD x2.toNat Str.empty)
 rw [names_map fun d hd=>(((mem_ends hr hp).mp hd).rngs G (law_uses hr)).1]
 exact sortS_eq (out_perm hr hp)
end
theorem sub_len : ∀ {l m : List Int},l.Nodup → (∀ x ∈ l,x ∈ m) → l.length ≤ m.length
 | [],m,_,_=>Nat.zero_le _
 | a :: l,m,hn,h=>by
  obtain ⟨h1,h2⟩:=List.nodup_cons.mp hn
  have:=sub_len (l:=l) (m:=m.erase a) h2 fun x hx=>(List.mem_erase_of_ne (show x ≠ a from fun e=>h1 (e ▸ hx))).mpr (h x (List.mem_cons_of_mem _ hx))
  rw [List.length_erase_of_mem (h a List.mem_cons_self)] at this
  have:=List.length_pos_of_mem (h a List.mem_cons_self)
  rw [List.length_cons]; lia
noncomputable def boxN (c : Int) : Str:=strMul ("r" : Str) c
theorem box_facts {c : Int} (h : 1 ≤ c ∧ c < 5) : ((boxN c).length : Int) = c ∧ Clean (boxN c) ∧ Clean (Txt.lower (boxN c)) ∧ Txt.lower (boxN c) = boxN c ∧ Txt.lower (strMul ("R" : Str) c) = boxN c:=by
 have hc : c = 1 ∨ c = 2 ∨ c = 3 ∨ c = 4:=by lia
 rcases hc with rfl | rfl | rfl | rfl <;> exact ⟨by decide +kernel,clean_of (by decide +kernel),clean_of (by decide +kernel),by decide +kernel,by decide +kernel⟩
theorem box_inj {c c' : Int} (h : 1 ≤ c ∧ c < 5) (h' : 1 ≤ c' ∧ c' < 5) (e : boxN c = boxN c') : c = c':=by
 have a:=(box_facts h).1
 have b:=(box_facts h').1
 rw [e] at a; lia
noncomputable def upN (steps : List (Int × Int)) (v : Int) : Int:=(chn steps v).dropLast.getLastD 0
noncomputable def ancN (steps : List (Int × Int)) (p : Int) : Nat → Int
 | 0=>p
 | t + 1=>upN steps (ancN steps p t)
theorem mod_zero : modnameP (("/" : Str) ++ nameOf [0]) = nameOf [0]:=by decide +kernel
section
variable {row : List Int} {is1 is2 : List Addr} {p d v e : Int}
theorem up_at (G : Gr (Sof (lawSteps row))) (h : 0 ≤ v ∧ v < 5) : modnameP (("/" : Str) ++ gN (lawSteps row) v) = gN (lawSteps row) (upN (lawSteps row) v) ∧ upN (lawSteps row) v ∈ chn (lawSteps row) v ∧ (1 ≤ v → upN (lawSteps row) v < v ∧ ∀ e ∈ chn (lawSteps row) v,e ≠ v → e ≤ upN (lawSteps row) v) ∧ (v = 0 → upN (lawSteps row) v = 0):=by
 by_cases q : v = 0
 ·subst q
  have e : chn (lawSteps row) 0 = [0]:=by rw [chn_snoc G h]; rfl
  have eu : upN (lawSteps row) 0 = 0:=by unfold upN; rw [e]; rfl
  rw [eu]
  refine ⟨?_,by rw [e]; exact List.mem_cons_self,fun h=>by lia,fun _=>rfl⟩
  unfold gN
  rw [e]; exact mod_zero
 ·have hv : 1 ≤ v ∧ v < 5:=by lia
  obtain ⟨d,d0,d1,d2,d3,d4⟩:=idom G hv
  have hd : 0 ≤ d ∧ d < 5:=by lia
  have eu : upN (lawSteps row) v = d:=by unfold upN; rw [d3,List.dropLast_concat,chn_last G hd]
  rw [eu]
  exact ⟨mod_up G hv d3 hd,d2,fun _=>⟨d1,d4⟩,fun e=>absurd e q⟩
theorem anc_at (G : Gr (Sof (lawSteps row))) (hp : 0 ≤ p ∧ p < 5) : ∀ t,ancN (lawSteps row) p t ∈ chn (lawSteps row) p ∧ bxNm (gB row is1 is2) p t = gN (lawSteps row) (ancN (lawSteps row) p t)
 | 0=>⟨chn_self G hp,names_get hp⟩
 | t + 1=>by
  obtain ⟨a,b⟩:=anc_at G hp t
  have ha:=((mem_chn G hp _).mp a).1
  obtain ⟨u1,u2,u3,u4⟩:=up_at G ha
  refine ⟨((chn_sub G hp a _).mp u2).1,?_⟩
  show modnameP (("/" : Str) ++ bxNm (gB row is1 is2) p t) = _
  rw [b]; exact u1
theorem anc_lt (G : Gr (Sof (lawSteps row))) (hp : 1 ≤ p ∧ p < 5) : ∀ t,ancN (lawSteps row) p (t + 1) < p
 | 0=>((up_at G (v:=p) (by lia)).2.2.1 hp.1).1
 | t + 1=>by
  have ih:=anc_lt G hp t
  have ha:=((mem_chn G (v:=p) (by lia) _).mp (anc_at (is1:=[]) (is2:=[]) G (p:=p) (by lia) (t + 1)).1).1
  obtain ⟨u1,u2,u3,u4⟩:=up_at G ha
  show upN _ (ancN _ p (t + 1)) < p
  by_cases q : ancN (lawSteps row) p (t + 1) = 0
  ·rw [u4 q]; lia
  ·have:=(u3 (by lia)).1; lia
theorem anc_all (G : Gr (Sof (lawSteps row))) (hp : 0 ≤ p ∧ p < 5) (he : e ∈ chn (lawSteps row) p) (hne : e ≠ p) : ∃ t,t < p.toNat ∧ ancN (lawSteps row) p (t + 1) = e:=by
 have key : ∀ t : Nat,(∃ t',t' < t ∧ ancN (lawSteps row) p (t' + 1) = e) ∨ (e < ancN (lawSteps row) p t ∧ ancN (lawSteps row) p t ≤ p - (t : Int)):=fun t=>by
  induction t with
  | zero =>
   right
   have:=chn_le G hp he
   show e < p ∧ p ≤ p - ((0 : Nat) : Int)
   lia
  | succ t ih =>
   rcases ih with ⟨t',a,b⟩ | ⟨a,b⟩
   ·exact .inl ⟨t',by lia,b⟩
   ·have hm:=(anc_at (is1:=[]) (is2:=[]) G hp t).1
    have h5:=((mem_chn G hp _).mp hm).1
    have he0:=((mem_chn G hp e).mp he).1
    obtain ⟨u1,u2,u3,u4⟩:=up_at G h5
    obtain ⟨u5,u6⟩:=u3 (by lia)
    have hle:=u6 e ((chn_sub G hp hm e).mpr ⟨he,by lia⟩) (by lia)
    by_cases q : upN (lawSteps row) (ancN (lawSteps row) p t) = e
    ·exact .inl ⟨t,by lia,q⟩
    ·right
     show e < upN (lawSteps row) (ancN (lawSteps row) p t) ∧ upN (lawSteps row) (ancN (lawSteps row) p t) ≤ p - ((t + 1 : Nat) : Int)
     lia
 rcases key p.toNat with h | ⟨a,b⟩
 ·exact h
 ·have he0:=((mem_chn G hp e).mp he).1
  lia
noncomputable def boxRows (cl : List (Int × Int)) : List (Str × Str):=cl.map fun t=>(lawCall t.1 3,boxN t.2)
noncomputable def col (cl : List (Int × Int)) (e : Int) : Int:=((cl.find? fun t=>decide (t.1 = e)).map (·.2)).getD 0
noncomputable def outL (row : List Int) (p : Int) : List Int:=(gEnds row).getD p.toNat []
structure BI (row : List Int) (k : Int) (cl : List (Int × Int)) : Prop where
 b2 : cl.map (·.1) = (intRange 0 k).filter fun d=>decide (d ∈ outL row d)
 b3 : ∀ t ∈ cl,(1 ≤ t.2 ∧ t.2 < 5) ∧ t.2 ≤ ((outL row t.1).length : Int)
 b4 : ∀ t ∈ cl,∀ t' ∈ cl,t.1 < t'.1 → gOut row t'.1 t.1 → t.2 ≠ t'.2
variable {k : Int} {cl : List (Int × Int)}
theorem BI.mem (hr : 6 ≤ row.length ∧ row.length ≤ 11) (hk : k ≤ 5) (h : BI row k cl) : d ∈ cl.map (·.1) ↔ (0 ≤ d ∧ d < k) ∧ gOut row d d:=by
 rw [h.b2,List.mem_filter,mem_intRange,decide_eq_true_eq]
 exact ⟨fun ⟨a,b⟩=>⟨a,(mem_ends hr (by lia)).mp b⟩,fun ⟨a,b⟩=>⟨a,(mem_ends hr (by lia)).mpr b⟩⟩
theorem range_nodup (a b : Int) : (intRange a b).Nodup:=by
 unfold intRange
 exact List.Pairwise.map _ (fun x y h e=>h (by lia)) List.nodup_range
theorem BI.nd (h : BI row k cl) : (cl.map (·.1)).Nodup:=by rw [h.b2]; exact List.Pairwise.filter _ (range_nodup 0 k)
theorem BI.rng (h : BI row k cl) : ∀ t ∈ cl,0 ≤ t.1 ∧ t.1 < k:=fun t ht=>by
 have : t.1 ∈ cl.map (·.1):=List.mem_map.mpr ⟨t,ht,rfl⟩
 rw [h.b2] at this
 exact mem_intRange.mp (List.mem_filter.mp this).1
theorem fst_inj : ∀ {cl : List (Int × Int)},(cl.map (·.1)).Nodup → ∀ {t t' : Int × Int},t ∈ cl → t' ∈ cl → t.1 = t'.1 → t = t'
 | [],_,_,_,h,_,_=>nomatch h
 | a :: cl,hn,t,t',h,h',e=>by
  rw [List.map_cons] at hn
  obtain ⟨h1,h2⟩:=List.nodup_cons.mp hn
  rcases List.mem_cons.mp h with r | r
  ·rcases List.mem_cons.mp h' with r' | r'
   ·rw [r,r']
   ·exact absurd (List.mem_map.mpr ⟨t',r',by rw [← e,r]⟩) h1
  ·rcases List.mem_cons.mp h' with r' | r'
   ·exact absurd (List.mem_map.mpr ⟨t,r,by rw [e,r']⟩) h1
   ·exact fst_inj h2 r r' e
theorem col_at (hm : e ∈ cl.map (·.1)) : cl.find? (fun t=>decide (t.1 = e)) = some (e,col cl e) ∧ (e,col cl e) ∈ cl:=by
 obtain ⟨t,ht,rfl⟩:=List.mem_map.mp hm
 cases q : cl.find? (fun z=>decide (z.1 = t.1)) with
 | none =>
  have:=List.find?_eq_none.mp q t ht
  exact absurd (decide_eq_true rfl) this
 | some z =>
  have h1:=List.find?_some q
  have h1 : z.1 = t.1:=of_decide_eq_true h1
  have hc : col cl t.1 = z.2:=by unfold col; rw [q]; rfl
  have hz : z = (t.1,col cl t.1):=by rw [hc,← h1]
  rw [← hz]
  exact ⟨rfl,List.mem_of_find?_eq_some q⟩
theorem box_find (h : BI row k cl) (hk : k ≤ 5) {nm : Str} (hd : 0 ≤ d ∧ d < 5) (e : Txt.lower nm = baseC d) : findH (boxRows cl) nm = (cl.find? fun t=>decide (t.1 = d)).map fun t=>(lawCall t.1 3,boxN t.2) :=
 findH_rows (ky:=fun t : Int × Int=>t.1) (km:=fun _=>3) (f:=fun t=>boxN t.2) (fun t ht=>by have:=h.rng t ht; lia) hd e
theorem BI.col_ok (h : BI row k cl) (hm : e ∈ cl.map (·.1)) : 1 ≤ col cl e ∧ col cl e < 5:=(h.b3 _ (col_at hm).2).1
noncomputable def tkRows (row : List Int) (cl : List (Int × Int)) (tl : List Int) : List (Str × Str):=tl.map fun e=>(boxN (col cl e),gN (lawSteps row) e)
structure TI (row : List Int) (cl : List (Int × Int)) (p : Int) (t : Nat) (tl : List Int) : Prop where
 nd : tl.Nodup
 mem : ∀ e,e ∈ tl ↔ gOut row p e ∧ ∃ t' < t,ancN (lawSteps row) p (t' + 1) = e
theorem BI.apart (hr : 6 ≤ row.length ∧ row.length ≤ 11) (hk : k ≤ 5) (h : BI row k cl) (h1 : gOut row p d) (h2 : gOut row p e) (hd : d < k) (he : e < k) (hc : col cl d = col cl e) : d = e:=by
 have G:=law_gr hr
 have H:=law_uses hr
 have m1:=(h.mem hr hk).mpr ⟨⟨(h1.rngs G H).1.1,hd⟩,h1.self G H⟩
 have m2:=(h.mem hr hk).mpr ⟨⟨(h2.rngs G H).1.1,he⟩,h2.self G H⟩
 have c1:=(col_at m1).2
 have c2:=(col_at m2).2
 rcases Int.lt_trichotomy d e with q | q | q
 ·exact absurd hc (h.b4 _ c1 _ c2 q (out_meet G H h1 h2 q))
 ·exact q
 ·exact absurd hc.symm (h.b4 _ c2 _ c1 q (out_meet G H h2 h1 q))
theorem same_box {c c' : Int} (h : 1 ≤ c ∧ c < 5) {nm w : Str} (h' : 1 ≤ c' ∧ c' < 5) (e : Txt.lower nm = boxN c') : sameH nm (boxN c,w) = decide (c = c'):=by
 unfold sameH
 rw [Bool.eq_iff_iff,decide_eq_true_eq,decide_eq_true_eq]
 show Txt.lower (boxN c) = _ ↔ _
 rw [(box_facts h).2.2.2.1,e]
 exact ⟨box_inj h h',fun e=>by rw [e]⟩
theorem tk_find (h : BI row k cl) {tl : List Int} (htl : ∀ e ∈ tl,e ∈ cl.map (·.1)) {c : Int} (hc : 1 ≤ c ∧ c < 5) {nm : Str} (e : Txt.lower nm = boxN c) : findH (tkRows row cl tl) nm = (tl.find? fun e=>decide (col cl e = c)).map fun e=>(boxN (col cl e),gN (lawSteps row) e):=by
 unfold findH tkRows
 rw [List.find?_map]
 congr 1
 exact find_congr fun z hz=>same_box (h.col_ok (htl z hz)) hc e
end
section
variable {row : List Int} {is1 is2 : List Addr} {p d v e : Int} {cl : List (Int × Int)} {tl : List Int} {t : Nat}
theorem TI.lt (hr : 6 ≤ row.length ∧ row.length ≤ 11) (hp : 0 ≤ p ∧ p < 5) (ht : t ≤ p.toNat) (hT : TI row cl p t tl) : ∀ e ∈ tl,gOut row p e ∧ e < p:=fun e he=>by
 obtain ⟨a,t',b,rfl⟩:=(hT.mem e).mp he
 exact ⟨a,anc_lt (law_gr hr) (by lia) t'⟩
theorem BI.has (hr : 6 ≤ row.length ∧ row.length ≤ 11) (hp : 0 ≤ p ∧ p < 5) (h : BI row p cl) (ho : gOut row p e) (hlt : e < p) : e ∈ cl.map (·.1) :=
 (h.mem hr (by lia)).mpr ⟨⟨(ho.rngs (law_gr hr) (law_uses hr)).1.1,hlt⟩,ho.self (law_gr hr) (law_uses hr)⟩
theorem tk_at (hr : 6 ≤ row.length ∧ row.length ≤ 11) (hp : 0 ≤ p ∧ p < 5) (h : BI row p cl) (ht : t < p.toNat) (hT : TI row cl p t tl) (eT : bxTk (gB row is1 is2) (boxRows cl) p t = tkRows row cl tl) :
  (bxNm (gB row is1 is2) p (t + 1) ∈ bxOut (gB row is1 is2) p → (findH (boxRows cl) (lastOf (bxNm (gB row is1 is2) p (t + 1)))).isSome = true ∧ (sdH (bxTk (gB row is1 is2) (boxRows cl) p t) (bxBox (boxRows cl) (bxNm (gB row is1 is2) p (t + 1))) (bxNm (gB row is1 is2) p (t + 1))).1 = bxNm (gB row is1 is2) p (t + 1)) ∧ ∃ tl',bxTk (gB row is1 is2) (boxRows cl) p (t + 1) = tkRows row cl tl' ∧ TI row cl p (t + 1) tl':=by
 have G:=law_gr hr
 have H:=law_uses hr
 obtain ⟨ha,hb⟩:=anc_at (is1:=is1) (is2:=is2) G hp (t + 1)
 have hlt : ancN (lawSteps row) p (t + 1) < p:=anc_lt G (by lia) t
 have he5:=((mem_chn G hp _).mp ha).1
 have e0 : bxTk (gB row is1 is2) (boxRows cl) p (t + 1) = if decide (bxNm (gB row is1 is2) p (t + 1) ∈ bxOut (gB row is1 is2) p) = true then (sdH (bxTk (gB row is1 is2) (boxRows cl) p t) (bxBox (boxRows cl) (bxNm (gB row is1 is2) p (t + 1))) (bxNm (gB row is1 is2) p (t + 1))).2 else bxTk (gB row is1 is2) (boxRows cl) p t:=rfl
 rw [e0,eT,hb]
 have hm:=out_memN (is1:=is1) (is2:=is2) hr hp he5
 have hmem : ∀ tl' : List Int,(∀ z,z ∈ tl' ↔ z ∈ tl ∨ (z = ancN (lawSteps row) p (t + 1) ∧ gOut row p z)) → ∀ z,z ∈ tl' ↔ gOut row p z ∧ ∃ t' < t + 1,ancN (lawSteps row) p (t' + 1) = z:=fun tl' q z=>by
  rw [q,hT.mem]
  constructor
  ·rintro (⟨a,t',b,c⟩ | ⟨a,b⟩)
   ·exact ⟨a,t',by lia,c⟩
   ·exact ⟨b,t,by lia,a.symm⟩
  ·rintro ⟨a,t',b,c⟩
   by_cases q2 : t' = t
   ·rw [q2] at c; exact .inr ⟨c.symm,a⟩
   ·exact .inl ⟨a,t',by lia,c⟩
 generalize ancN (lawSteps row) p (t + 1) = e at *
 by_cases q : gOut row p e
 ·have m:=h.has hr hp q hlt
  obtain ⟨c1,c2⟩:=col_at m
  have hf : findH (boxRows cl) (lastOf (gN (lawSteps row) e)) = some (lawCall e 3,boxN (col cl e)):=by
   rw [(one_at G he5).2.2.1,box_find h (by lia) he5 (call_lower he5 0),c1]; rfl
  have hbx : bxBox (boxRows cl) (gN (lawSteps row) e) = boxN (col cl e):=by
   show (Option.map (·.2) (findH (boxRows cl) (lastOf (gN (lawSteps row) e)))).getD Str.empty = _
   rw [hf]; rfl
  have htl : ∀ z ∈ tl,z ∈ cl.map (·.1):=fun z hz=>by
   obtain ⟨a,b⟩:=hT.lt hr hp (by lia) z hz
   exact h.has hr hp a b
  have hcc:=h.col_ok m
  have hfind:=tk_find h htl hcc (nm:=boxN (col cl e)) (box_facts hcc).2.2.2.1
  have hone : ∀ z ∈ tl,col cl z = col cl e → z = e:=fun z hz hc=>by
   obtain ⟨a,b⟩:=hT.lt hr hp (by lia) z hz
   exact h.apart hr (by lia) a q b hlt hc
  rw [if_pos (decide_eq_true (hm.mpr q)),hbx,hf]
  by_cases r : e ∈ tl
  ·have e1 : tl.find? (fun z=>decide (col cl z = col cl e)) = some e:=by
    cases w : tl.find? (fun z=>decide (col cl z = col cl e)) with
    | none=>exact absurd (decide_eq_true rfl) (List.find?_eq_none.mp w e r)
    | some z =>
     have a:=List.find?_some w
     rw [hone z (List.mem_of_find?_eq_some w) (of_decide_eq_true a)]
   have e2 : sdH (tkRows row cl tl) (boxN (col cl e)) (gN (lawSteps row) e) = (gN (lawSteps row) e,tkRows row cl tl):=by
    unfold sdH
    rw [hfind,e1]; rfl
   rw [e2]
   exact ⟨fun _=>⟨rfl,rfl⟩,tl,rfl,hT.nd,hmem tl fun z=>⟨.inl,fun a=>a.elim id fun a=>by rw [a.1]; exact r⟩⟩
  ·have e1 : tl.find? (fun z=>decide (col cl z = col cl e)) = none:=List.find?_eq_none.mpr fun z hz a=>r (by rw [← hone z hz (of_decide_eq_true a)]; exact hz)
   have e2 : sdH (tkRows row cl tl) (boxN (col cl e)) (gN (lawSteps row) e) = (gN (lawSteps row) e,tkRows row cl (tl ++ [e])):=by
    unfold sdH
    rw [hfind,e1]
    unfold tkRows
    rw [List.map_append]; rfl
   rw [e2]
   refine ⟨fun _=>⟨rfl,rfl⟩,tl ++ [e],rfl,List.nodup_append.mpr ⟨hT.nd,List.pairwise_singleton _ _,fun a ha b hb x=>r (by rw [List.mem_singleton.mp hb] at x; rw [← x]; exact ha)⟩,hmem _ fun z=>?_⟩
   rw [List.mem_append,List.mem_singleton]
   exact or_congr Iff.rfl ⟨fun a=>⟨a,a ▸ q⟩,fun a=>a.1⟩
 ·rw [if_neg (by rw [decide_eq_false fun a=>q (hm.mp a)]; decide)]
  exact ⟨fun a=>absurd (hm.mp a) q,tl,rfl,hT.nd,hmem tl fun z=>⟨.inl,fun a=>a.elim id fun a=>absurd (a.1 ▸ a.2) q⟩⟩
theorem tk_all (hr : 6 ≤ row.length ∧ row.length ≤ 11) (hp : 0 ≤ p ∧ p < 5) (h : BI row p cl) : ∀ t,t ≤ p.toNat → ∃ tl,bxTk (gB row is1 is2) (boxRows cl) p t = tkRows row cl tl ∧ TI row cl p t tl
 | 0,_=>⟨[],rfl,.nil,fun e=>⟨fun a=>(nomatch a),fun ⟨_,t,a,_⟩=>by lia⟩⟩
 | t + 1,ht=>by
  obtain ⟨tl,a,b⟩:=tk_all hr hp h t (by lia)
  exact (tk_at hr hp h (by lia) b a).2
theorem maker_lt (ho : gOut row p e) : e < 4:=by
 have : ∃ u,gU row e u:=by
  rcases ho with ⟨w,a,b,c,f,g⟩ | ⟨v,_,a⟩
  ·exact ⟨_,w,a,b,c,g⟩
  ·exact a.use
 obtain ⟨u,w,a,b,_⟩:=this
 have:=((wishes_ok (row:=row)).2 w a).1
 lia
theorem empty_eq (h : BI row p cl) (htl : ∀ e ∈ tl,e ∈ cl.map (·.1)) : bxEmpty (tkRows row cl tl) = (intRange 1 5).filter fun k=>!decide (k ∈ tl.map (col cl)):=by
 unfold bxEmpty
 rw [List.map_id']
 refine List.filter_congr fun k hk=>?_
 have hk:=mem_intRange.mp hk
 rw [tk_find h htl hk (box_facts hk).2.2.2.2]
 cases w : tl.find? (fun z=>decide (col cl z = k)) with
 | none =>
  have : k ∉ tl.map (col cl):=fun m=>by
   obtain ⟨z,a,b⟩:=List.mem_map.mp m
   exact List.find?_eq_none.mp w z a (decide_eq_true b)
  rw [decide_eq_false this]; rfl
 | some z =>
  have : k ∈ tl.map (col cl):=List.mem_map.mpr ⟨z,List.mem_of_find?_eq_some w,of_decide_eq_true (List.find?_some (p:=fun z=>decide (col cl z = k)) w)⟩
  rw [decide_eq_true this]; rfl
theorem first_free {u : List Int} (hu : u.length ≤ 3) : 0 < ((intRange 1 5).filter fun k=>!decide (k ∈ u)).length ∧ (1 ≤ ((intRange 1 5).filter fun k=>!decide (k ∈ u)).getD 0 0 ∧ ((intRange 1 5).filter fun k=>!decide (k ∈ u)).getD 0 0 < 5) ∧ ((intRange 1 5).filter fun k=>!decide (k ∈ u)).getD 0 0 ∉ u ∧ ((intRange 1 5).filter fun k=>!decide (k ∈ u)).getD 0 0 ≤ u.length + 1:=by
 have hpos : 0 < ((intRange 1 5).filter fun k=>!decide (k ∈ u)).length:=by
  apply Classical.byContradiction
  intro hn
  have hnil:=List.eq_nil_of_length_eq_zero (Nat.eq_zero_of_not_pos hn)
  rw [List.filter_eq_nil_iff] at hnil
  have:=sub_len (l:=intRange 1 5) (m:=u) (range_nodup 1 5) fun x hx=>by
   have:=hnil x hx
   rw [Bool.not_eq_true',decide_eq_false_iff_not,Classical.not_not] at this
   exact this
  rw [intRange_len] at this
  have e : ((5 : Int) - 1).toNat = 4:=rfl
  lia
 have hs : ((intRange 1 5).filter fun k=>!decide (k ∈ u)).Pairwise (· < ·):=by
  refine List.Pairwise.filter _ ?_
  have e : intRange 1 5 = [1,2,3,4]:=by decide
  rw [e]; decide
 have hmem : ∀ k,k ∈ (intRange 1 5).filter (fun k=>!decide (k ∈ u)) ↔ (1 ≤ k ∧ k < 5) ∧ k ∉ u:=fun k=>by
  rw [List.mem_filter,mem_intRange,Bool.not_eq_true',decide_eq_false_iff_not]
 generalize (intRange 1 5).filter (fun k=>!decide (k ∈ u)) = l at hpos hs hmem ⊢
 match l,hpos with
 | x :: l,_ =>
  have hx:=(hmem x).mp List.mem_cons_self
  refine ⟨Nat.succ_pos _,hx.1,hx.2,?_⟩
  show x ≤ _
  have:=sub_len (l:=intRange 1 x) (m:=u) (range_nodup 1 x) fun z hz=>by
   have hz:=mem_intRange.mp hz
   apply Classical.byContradiction
   intro hn
   rcases List.mem_cons.mp ((hmem z).mpr ⟨by lia,hn⟩) with r | r
   ·lia
   ·have:=(List.pairwise_cons.mp hs).1 z r; lia
  rw [intRange_len] at this
  lia
theorem range_snoc (hp : 0 ≤ p) : intRange 0 (p + 1) = intRange 0 p ++ [p]:=by
 unfold intRange
 have e1 : (p + 1 - 0).toNat = (p - 0).toNat + 1:=by lia
 rw [e1,List.range_succ,List.map_append]
 congr 1
 show [0 + (((p - 0).toNat : Nat) : Int)] = [p]
 congr 1
 lia
theorem box_step (hr : 6 ≤ row.length ∧ row.length ≤ 11) (hp : 0 ≤ p ∧ p < 5) (h : BI row p cl) : BxOk (gB row is1 is2) (boxRows cl) p ∧ ∃ cl',bxB (gB row is1 is2) (boxRows cl) p = boxRows cl' ∧ BI row (p + 1) cl':=by
 have G:=law_gr hr
 have H:=law_uses hr
 obtain ⟨tl,eT,hT⟩:=tk_all (is1:=is1) (is2:=is2) hr hp h p.toNat (Nat.le_refl _)
 have hlt:=hT.lt hr hp (Nat.le_refl _)
 have hmem : ∀ e,e ∈ tl ↔ gOut row p e ∧ e ≠ p:=fun e=>by
  constructor
  ·exact fun he=>⟨(hlt e he).1,by have:=(hlt e he).2; lia⟩
  ·rintro ⟨a,b⟩
   obtain ⟨t,c,f⟩:=anc_all G hp ((mem_chn G hp e).mpr ⟨(a.rngs G H).1,a.dom H⟩) b
   exact (hT.mem e).mpr ⟨a,t,c,f⟩
 have htl : ∀ e ∈ tl,e ∈ cl.map (·.1):=fun e he=>h.has hr hp (hlt e he).1 (hlt e he).2
 have hnames : (gB row is1 is2).names = gNames row:=rfl
 have hnp : (gB row is1 is2).names.getD p.toNat Str.empty = gN (lawSteps row) p:=names_get hp
 have hcl : cl.length ≤ 5:=by
  have e : cl.length = (cl.map (·.1)).length:=(List.length_map ..).symm
  rw [e,h.b2]
  refine Nat.le_trans (List.length_filter_le _ _) ?_
  rw [intRange_len]; lia
 have hfew : gOut row p p → tl.length + 1 ≤ 4 ∧ tl.length + 1 ≤ (outL row p).length:=fun ho=>by
  have hn : (p :: tl).Nodup:=List.nodup_cons.mpr ⟨fun m=>((hmem p).mp m).2 rfl,hT.nd⟩
  have hi : ∀ x ∈ p :: tl,gOut row p x:=fun x hx=>by
   rcases List.mem_cons.mp hx with r | r
   ·rw [r]; exact ho
   ·exact (hlt x r).1
  exact ⟨nodup_le 4 hn fun x hx=>⟨((hi x hx).rngs G H).1.1,maker_lt (hi x hx)⟩,sub_len hn fun x hx=>(mem_ends hr hp).mpr (hi x hx)⟩
 have hfree:=fun ho=>first_free (u:=tl.map (col cl)) (by rw [List.length_map]; have:=(hfew ho).1; lia)
 rw [← empty_eq h htl] at hfree
 refine ⟨⟨by unfold boxRows; rw [List.length_map]; exact hcl,?_,fun kv hkv=>?_,fun t ht=>?_,fun t ht hm=>?_,fun t ht hm=>?_,?_,fun ho=>?_⟩,?_⟩
 ·rw [(out_perm hr hp).length_eq,List.length_map]
  exact getD_all (P:=fun l=>l.length ≤ 5) (Nat.zero_le _) (fun e he=>((ends_ok _ _ _).2 e he).1) _
 ·obtain ⟨z,hz,rfl⟩:=List.mem_map.mp hkv
  have h1:=h.rng z hz
  have h2:=box_facts (h.b3 z hz).1
  have h3:=(h.b3 z hz).1
  exact ⟨Nat.le_trans (call_len (by lia) 3) (by decide),by show (boxN z.2).length ≤ 10; lia,h2.2.1,h2.2.2.1⟩
 ·obtain ⟨a,b⟩:=anc_at (is1:=is1) (is2:=is2) G hp t
  rw [b,hnames,names_eq]
  exact List.mem_map.mpr ⟨_,mem_intRange.mpr ((mem_chn G hp _).mp a).1,rfl⟩
 ·obtain ⟨tl',a,b⟩:=tk_all (is1:=is1) (is2:=is2) hr hp h t (by lia)
  exact ((tk_at hr hp h ht b a).1 hm).1
 ·obtain ⟨tl',a,b⟩:=tk_all (is1:=is1) (is2:=is2) hr hp h t (by lia)
  exact ((tk_at hr hp h ht b a).1 hm).2
 ·rw [eT]
  unfold bxSame
  refine decide_eq_true (sortS_eq ?_)
  rw [List.map_id',hnp]
  have e : (tkRows row cl tl).map (·.2) = tl.map (gN (lawSteps row)):=by unfold tkRows; rw [List.map_map]; rfl
  rw [e]
  refine (gn_perm G (List.Pairwise.filter _ out_nodup) hT.nd (fun e he=>((hlt e he).1.rngs G H).1) fun s=>?_).symm
  rw [List.mem_filter,out_mem hr hp,Bool.not_eq_true',decide_eq_false_iff_not]
  constructor
  ·rintro ⟨⟨d,a,b⟩,c⟩
   exact ⟨d,(hmem d).mpr ⟨a,fun q=>c (by rw [b,q])⟩,b⟩
  ·rintro ⟨d,a,b⟩
   obtain ⟨a1,a2⟩:=(hmem d).mp a
   exact ⟨⟨d,a1,b⟩,fun q=>a2 (gN_inj G (a1.rngs G H).1 hp (b.symm.trans q))⟩
 ·rw [hnp] at ho
  rw [eT]
  exact (hfree ((out_memN hr hp hp).mp ho)).1
 ·unfold bxB
  rw [hnp,eT]
  by_cases ho : gOut row p p
  ·rw [if_pos (decide_eq_true ((out_memN hr hp hp).mpr ho))]
   obtain ⟨f1,f2,f3,f4⟩:=hfree ho
   have hfw:=(hfew ho).2
   rw [List.length_map] at f4
   generalize (bxEmpty (tkRows row cl tl)).getD 0 0 = x at f2 f3 f4 ⊢
   have hnone : findH (boxRows cl) (lawCall p 3) = none:=by
    rw [box_find h (by lia) hp (call_lower hp 3)]
    have : cl.find? (fun t=>decide (t.1 = p)) = none:=List.find?_eq_none.mpr fun z hz a=>by
     have:=h.rng z hz
     have:=of_decide_eq_true a
     lia
    rw [this]; rfl
   refine ⟨cl ++ [(p,x)],?_,⟨?_,fun z hz=>?_,fun z hz z' hz' hl hg=>?_⟩⟩
   ·unfold sdH
    rw [hnone]
    unfold boxRows
    rw [List.map_append]; rfl
   ·rw [List.map_append,h.b2,range_snoc hp.1,List.filter_append]
    congr 1
    rw [List.filter_cons,if_pos (decide_eq_true (show p ∈ outL row p from (mem_ends hr hp).mpr ho))]; rfl
   ·rcases List.mem_append.mp hz with q | q
    ·exact h.b3 z q
    ·rw [List.mem_singleton.mp q]
     exact ⟨f2,by show x ≤ ((outL row p).length : Int); lia⟩
   ·rcases List.mem_append.mp hz with q | q
    ·rcases List.mem_append.mp hz' with q' | q'
     ·exact h.b4 z q z' q' hl hg
     ·have e:=List.mem_singleton.mp q'
      subst e
      have hl : z.1 < p:=hl
      have hzt : z.1 ∈ tl:=(hmem z.1).mpr ⟨hg,by lia⟩
      have hc:=(col_at (htl _ hzt)).2
      have:=fst_inj h.nd q hc rfl
      intro ex
      refine f3 (List.mem_map.mpr ⟨z.1,hzt,?_⟩)
      rw [← show z.2 = x from ex]
      exact (congrArg Prod.snd this).symm
    ·have e:=List.mem_singleton.mp q
     subst e
     have hl : p < z'.1:=hl
     rcases List.mem_append.mp hz' with q' | q'
     ·have:=h.rng z' q'; lia
     ·have e:=List.mem_singleton.mp q'
      subst e
      exact absurd hl (Int.lt_irrefl p)
  ·rw [if_neg (by rw [decide_eq_false fun a=>ho ((out_memN hr hp hp).mp a)]; decide)]
   refine ⟨cl,rfl,?_,h.b3,h.b4⟩
   rw [h.b2,range_snoc hp.1,List.filter_append,List.filter_cons,if_neg,List.filter_nil,List.append_nil]
   rw [decide_eq_false (show p ∉ outL row p from fun a=>ho ((mem_ends hr hp).mp a))]; decide
end
section
variable {row : List Int} {is1 is2 : List Addr} {cl : List (Int × Int)}
theorem boxes_at (hr : 6 ≤ row.length ∧ row.length ≤ 11) : ∀ k : Nat,k ≤ 5 → ∃ cl,bxAt (gB row is1 is2) [] k = boxRows cl ∧ BI row (k : Int) cl
 | 0,_=>⟨[],rfl,rfl,fun t h=>(nomatch h),fun t h=>(nomatch h)⟩
 | k + 1,hk=>by
  obtain ⟨cl,a,b⟩:=boxes_at hr k (by lia)
  obtain ⟨cl',c,e⟩:=(box_step (is1:=is1) (is2:=is2) hr (by lia) b).2
  refine ⟨cl',?_,e⟩
  show bxB (gB row is1 is2) (bxAt (gB row is1 is2) [] k) (k : Int) = _
  rw [a,c]
theorem box_most (hr : 6 ≤ row.length ∧ row.length ≤ 11) (h : BI row 5 cl) : maxI ([(0 : Int)] ++ (cl.map fun t=>t.2)) = maxI ((gEnds row).map fun x1 : List Int=>((List.length x1 : Nat) : Int)):=by
 have G:=law_gr hr
 have H:=law_uses hr
 have hel : 0 < ((gEnds row).map fun x1 : List Int=>((List.length x1 : Nat) : Int)).length:=by have e5 : (gEnds row).length = 5:=(ends_ok _ _ _).1; rw [List.length_map,e5]; decide
 have hB : ∀ p,0 ≤ p ∧ p < 5 → ((outL row p).length : Int) ≤ maxI ((gEnds row).map fun x1 : List Int=>((List.length x1 : Nat) : Int)):=fun p hp=>maxI_le _ (List.mem_map.mpr ⟨outL row p,by rw [ends_map]; exact List.mem_map.mpr ⟨p,mem_intRange.mpr hp,rfl⟩,rfl⟩)
 have hA : ∀ t ∈ cl,t.2 ≤ maxI ([(0 : Int)] ++ (cl.map fun t=>t.2)):=fun t ht=>maxI_le _ (List.mem_append_right _ (List.mem_map.mpr ⟨t,ht,rfl⟩))
 have hA0 : 0 ≤ maxI ([(0 : Int)] ++ (cl.map fun t=>t.2)):=maxI_le _ (List.mem_append_left _ List.mem_cons_self)
 refine Int.le_antisymm ?_ ?_
 ·rcases List.mem_append.mp (maxI_mem (l:=[(0 : Int)] ++ (cl.map fun t=>t.2)) (by simp)) with q | q
  ·rw [List.mem_singleton.mp q]
   exact Int.le_trans (Int.natCast_nonneg _) (hB 0 (by decide))
  ·obtain ⟨t,ht,e⟩:=List.mem_map.mp q
   rw [← e]
   exact Int.le_trans (h.b3 t ht).2 (hB t.1 (h.rng t ht))
 ·obtain ⟨o,ho,e⟩:=List.mem_map.mp (maxI_mem hel)
  rw [← e]
  rw [ends_map] at ho
  obtain ⟨p,hp,rfl⟩:=List.mem_map.mp ho
  have hp:=mem_intRange.mp hp
  have hm : ∀ d ∈ outL row p,gOut row p d ∧ d < 5:=fun d hd=>⟨(mem_ends hr hp).mp hd,(((mem_ends hr hp).mp hd).rngs G H).1.2⟩
  have hc : ∀ d ∈ outL row p,d ∈ cl.map (·.1):=fun d hd=>(h.mem hr (by decide)).mpr ⟨⟨((hm d hd).1.rngs G H).1.1,(hm d hd).2⟩,(hm d hd).1.self G H⟩
  have hn : ((outL row p).map (col cl)).Nodup:=List.Pairwise.map _ (fun a b hab=>hab) ((ends_nodup hp).imp_of_mem fun {a b} ha hb hne e=>hne (h.apart hr (by decide) (hm a ha).1 (hm b hb).1 (hm a ha).2 (hm b hb).2 e))
  have:=sub_len (l:=(outL row p).map (col cl)) (m:=intRange 1 (maxI ([(0 : Int)] ++ (cl.map fun t=>t.2)) + 1)) hn fun x hx=>by
   obtain ⟨d,hd,rfl⟩:=List.mem_map.mp hx
   have a:=(col_at (hc d hd)).2
   have b:=hA _ a
   have c:=(h.b3 _ a).1
   exact mem_intRange.mpr ⟨c.1,by lia⟩
  rw [List.length_map,intRange_len] at this
  show ((outL row p).length : Int) ≤ _
  lia
theorem law_fin (hr : 6 ≤ row.length ∧ row.length ≤ 11) (h1 : is1.length = 5) (h2 : is2.length = 5) : ∃ bx,LawFin (lawSteps row) (gCh row) (gReads row) (gStays row) (gEnds row) (gEnv row is1 is2) (gSt row is1 is2) bx:=by
 have G:=law_gr hr
 have H:=law_uses hr
 obtain ⟨cl,eb,h⟩:=boxes_at (is1:=is1) (is2:=is2) hr 5 (Nat.le_refl _)
 have h : BI row 5 cl:=h
 have hfst : (boxRows cl).map (·.1) = cl.map fun t=>lawCall t.1 3:=by unfold boxRows; rw [List.map_map]; rfl
 have hsnd : (boxRows cl).map (·.2) = cl.map fun t=>boxN t.2:=by unfold boxRows; rw [List.map_map]; rfl
 have hfind : ∀ t ∈ cl,findH (boxRows cl) (Txt.lower (lawCall t.1 3)) = some (lawCall t.1 3,boxN t.2):=fun t ht=>by
  have h5:=h.rng t ht
  rw [call_lower h5]
  show findH (boxRows cl) (lawCall t.1 0) = _
  rw [box_find h (by decide) h5 (call_lower h5 0)]
  obtain ⟨c1,c2⟩:=col_at (cl:=cl) (e:=t.1) (List.mem_map.mpr ⟨t,ht,rfl⟩)
  have:=fst_inj h.nd ht c2 rfl
  rw [c1,← this]; rfl
 have hkept : ∀ (i : Nat) (y : Int),0 ≤ (i : Int) ∧ (i : Int) < 5 → 0 ≤ y ∧ y < 5 → igNames ((gEnv row is1 is2).inG.getD i ig0) (askIn (gEnv row is1 is2) i).2 none ((gNames row).getD y.toNat Str.empty) = (gT row ((i : Int),y,1),(askIn (gEnv row is1 is2) i).2):=fun i y a b =>
  (law_kept (is1:=is1) (is2:=is2) hr h1 h2).kin ((i : Int),y,1) a b rfl
 refine ⟨boxRows cl,fun k hk=>?_,eb,?_,fun kv hkv=>?_,law_outs hr,?_,fun key hkey=>?_,?_,?_,?_⟩
 ·obtain ⟨c,a,b⟩:=boxes_at (is1:=is1) (is2:=is2) hr k (by lia)
  rw [show bxAt (bE (gEnv row is1 is2) (gSt row is1 is2) (lawSteps row)) [] k = boxRows c from a]
  exact (box_step hr (by lia) b).1
 ·have e : cl.length = (cl.map (·.1)).length:=(List.length_map ..).symm
  unfold boxRows
  rw [List.length_map,e,h.b2]
  exact Nat.le_trans (List.length_filter_le _ _) (by rw [intRange_len]; decide)
 ·obtain ⟨z,hz,rfl⟩:=List.mem_map.mp hkv
  have q1:=h.rng z hz
  have q2:=box_facts (h.b3 z hz).1
  have q3:=(h.b3 z hz).1
  exact ⟨Nat.le_trans (call_len q1 3) (by decide),by show (boxN z.2).length ≤ 10; lia⟩
 ·rw [hfst]
  have e : (cl.map fun t=>lawCall t.1 3) = (cl.map (·.1)).map fun d=>lawCall d 3:=by rw [List.map_map]; rfl
  rw [e,h.b2]
  unfold keysWant
  congr 1
  refine List.filter_congr fun d hd=>?_
  have hd:=mem_intRange.mp hd
  rw [Bool.eq_iff_iff,decide_eq_true_eq,Bool.not_eq_true',decide_eq_false_iff_not]
  show d ∈ (gEnds row).getD d.toNat [] ↔ _
  rw [mem_ends hr hd]
  refine (out_use G H).trans ⟨?_,?_⟩
  ·rintro ⟨u,a⟩ q
   have:=(mem_uses hr hd).mpr a
   rw [q] at this; cases this
  ·intro q
   obtain ⟨u,hu⟩:=List.exists_mem_of_ne_nil _ q
   exact ⟨u,(mem_uses hr hd).mp hu⟩
 ·rw [hfst] at hkey
  obtain ⟨t,ht,rfl⟩:=List.mem_map.mp hkey
  unfold sdH
  rw [hfind t ht]
 ·rw [hfst,hsnd,List.map_map]
  refine List.map_congr_left fun t ht=>?_
  show (sdH (boxRows cl) (Txt.lower (lawCall t.1 3)) ("" : Str)).1 = _
  unfold sdH
  rw [hfind t ht]
 ·rw [hsnd,List.map_map,← box_most hr h]
  congr 2
  exact List.map_congr_left fun t ht=>(box_facts (h.b3 t ht).1).1
 ·have e : intRange 0 5 = (List.range 5).map fun i : Nat=>(i : Int):=by decide
  unfold finWant
  rw [e,List.map_map]
  refine List.map_congr_left fun i hi=>?_
  have hi:=List.mem_range.mp hi
  have hi5 : 0 ≤ (i : Int) ∧ (i : Int) < 5:=by lia
  rw [← e]
  unfold finRow
  show (gNames row).map _ = (intRange 0 5).map fun x2 : Int=>if decide ((i : Int) ∈ (gCh row).getD x2.toNat []) = true then (1 : Int) else 0
  rw [names_eq,List.map_map]
  refine List.map_congr_left fun y hy=>?_
  have hy:=mem_intRange.mp hy
  have hk:=hkept i y hi5 hy
  rw [names_get hy] at hk
  show (igNames ((gEnv row is1 is2).inG.getD i ig0) (askIn (gEnv row is1 is2) i).2 none (gN (lawSteps row) y)).1 = _
  rw [hk]
  show gT row ((i : Int),y,1) = _
  unfold gT dm
  rw [if_pos rfl,chains_get]
  exact if_iff decide_eq_true_iff.symm _ _
theorem law_math (hr : 6 ≤ row.length ∧ row.length ≤ 11) : LawMath row:=by
 have G:=law_gr hr
 exact ⟨lc_fit G (by have:=(lawSteps_ok hr).1; lia),⟨over_len _,fun c hc=>by obtain ⟨v,hv,rfl⟩:=mem_over hc; exact chn_mem G hv⟩,fun is1 is2 h1 h2 v hv=>law_v hr h1 h2 hv,fun is1 is2 h1 h2=>law_kept hr h1 h2,fun is1 is2 v hv=>law_live hr is1 is2 hv,fun is1 is2 h1 h2=>law_fin hr h1 h2⟩
end
end Mine
theorem PySem.Challenge.cw_pu0049_02_holds : PySem.Challenge.rw_pu0049_02.Holds :=
 Mine.head_of fun w s₁ mg mb fa a P0 vs script KX hg hb hl hbt hbm hB hga hmg hla hI hlen => Mine.main_of KX hg hb hl hbt hbm hB hga hmg hla hI fun G hG hTB env ca F hl => Mine.law_all (fun script hs => Mine.law_math Mine.lawRow_len) G hG hTB script hlen env ca F hl

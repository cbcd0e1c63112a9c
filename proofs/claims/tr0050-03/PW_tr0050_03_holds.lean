import PyProof.Rows.All
import Wide.All
import OpenK.AllK
import Wide.FinOn
import Lean
import PySem.Challenge.RW_tr0050_03
section
open PySem PySem.W PyProof.Rows
set_option Elab.async false
set_option maxRecDepth 100000
set_option linter.unusedVariables false
namespace Mine
noncomputable abbrev pw := PySem.Challenge.pw_tr0050_03
noncomputable abbrev S (x : String) : PySem.Str := PySem.Str.ofString x
noncomputable abbrev H (P : Params) (x : PySem.Str) : Int := PyData.keyHash P x
noncomputable abbrev LED (P : Params) : Bool := !P.followText "set-order"
noncomputable def fdefn (i : Nat) : Arguments × List Stmt × Scope := match (pw.main.body.drop i).take 1 with
  | [.FunctionDef _ a b _ _ _ s _ _ _] => (a, b, s)
  | _ => (default, [], default)
noncomputable def b3pairs : List (Int × PySem.Str) := match (pw.main.body.drop 4).take 1 with
  | [.Assign _ (.Dict ks vs _) _] => (ks.zip vs).filterMap (fun q => match q with | (some (.Constant (.int i) _ _), .Constant (.str x) _ _) => some (i, x) | _ => none)
  | _ => []
noncomputable def entsAt (k : Nat) : Nat → List (Int × PySem.Str) → List DictEntry
  | _, [] => []
  | t, (i, x) :: r => ⟨i, .int i t, .str x (t + 1)⟩ :: entsAt k (t + k) r
noncomputable def b3ents : List DictEntry := entsAt 3 351 (b3pairs.take 646) ++ entsAt 2 2289 (b3pairs.drop 646)
noncomputable def b1ents : List (Int × Value) := [(65024, (.int 65024 300)), (65025, (.int 65025 301)), (65026, (.int 65026 302)), (65027, (.int 65027 303)), (65028, (.int 65028 304)), (65029, (.int 65029 305)), (6150, (.int 6150 286)), (65030, (.int 65030 306)), (65031, (.int 65031 307)), (65032, (.int 65032 308)), (65033, (.int 65033 309)), (6155, (.int 6155 287)), (6156, (.int 6156 288)), (6157, (.int 6157 289)), (8203, (.int 8203 290)), (8204, (.int 8204 291)), (8205, (.int 8205 292)), (65034, (.int 65034 310)), (65035, (.int 65035 311)), (65036, (.int 65036 312)), (65037, (.int 65037 313)), (65038, (.int 65038 314)), (65039, (.int 65039 315)), (173, (.int 173 284)), (847, (.int 847 285)), (8288, (.int 8288 293)), (65279, (.int 65279 294))]
noncomputable abbrev fpar3 : Arguments := Subtype.val (p := fun x => (fdefn 3).1 = x) ⟨_, by conv => lhs; whnf⟩
noncomputable abbrev fbody3 : List Stmt := Subtype.val (p := fun x => (fdefn 3).2.1 = x) ⟨_, by conv => lhs; whnf⟩
noncomputable abbrev fsco3 : Scope := Subtype.val (p := fun x => (fdefn 3).2.2 = x) ⟨_, by conv => lhs; whnf⟩
noncomputable abbrev fpar5 : Arguments := Subtype.val (p := fun x => (fdefn 5).1 = x) ⟨_, by conv => lhs; whnf⟩
noncomputable abbrev fbody5 : List Stmt := Subtype.val (p := fun x => (fdefn 5).2.1 = x) ⟨_, by conv => lhs; whnf⟩
noncomputable abbrev fsco5 : Scope := Subtype.val (p := fun x => (fdefn 5).2.2 = x) ⟨_, by conv => lhs; whnf⟩
noncomputable abbrev fpar9 : Arguments := Subtype.val (p := fun x => (fdefn 9).1 = x) ⟨_, by conv => lhs; whnf⟩
noncomputable abbrev fbody9 : List Stmt := Subtype.val (p := fun x => (fdefn 9).2.1 = x) ⟨_, by conv => lhs; whnf⟩
noncomputable abbrev fsco9 : Scope := Subtype.val (p := fun x => (fdefn 9).2.2 = x) ⟨_, by conv => lhs; whnf⟩
noncomputable abbrev fpar14 : Arguments := Subtype.val (p := fun x => (fdefn 14).1 = x) ⟨_, by conv => lhs; whnf⟩
noncomputable abbrev fbody14 : List Stmt := Subtype.val (p := fun x => (fdefn 14).2.1 = x) ⟨_, by conv => lhs; whnf⟩
noncomputable abbrev fsco14 : Scope := Subtype.val (p := fun x => (fdefn 14).2.2 = x) ⟨_, by conv => lhs; whnf⟩
noncomputable abbrev fpar16 : Arguments := Subtype.val (p := fun x => (fdefn 16).1 = x) ⟨_, by conv => lhs; whnf⟩
noncomputable abbrev fbody16 : List Stmt := Subtype.val (p := fun x => (fdefn 16).2.1 = x) ⟨_, by conv => lhs; whnf⟩
noncomputable abbrev fsco16 : Scope := Subtype.val (p := fun x => (fdefn 16).2.2 = x) ⟨_, by conv => lhs; whnf⟩
noncomputable abbrev fpar17 : Arguments := Subtype.val (p := fun x => (fdefn 17).1 = x) ⟨_, by conv => lhs; whnf⟩
noncomputable abbrev fbody17 : List Stmt := Subtype.val (p := fun x => (fdefn 17).2.1 = x) ⟨_, by conv => lhs; whnf⟩
noncomputable abbrev fsco17 : Scope := Subtype.val (p := fun x => (fdefn 17).2.2 = x) ⟨_, by conv => lhs; whnf⟩
noncomputable abbrev fpar18 : Arguments := Subtype.val (p := fun x => (fdefn 18).1 = x) ⟨_, by conv => lhs; whnf⟩
noncomputable abbrev fbody18 : List Stmt := Subtype.val (p := fun x => (fdefn 18).2.1 = x) ⟨_, by conv => lhs; whnf⟩
noncomputable abbrev fsco18 : Scope := Subtype.val (p := fun x => (fdefn 18).2.2 = x) ⟨_, by conv => lhs; whnf⟩
noncomputable abbrev fpar19 : Arguments := Subtype.val (p := fun x => (fdefn 19).1 = x) ⟨_, by conv => lhs; whnf⟩
noncomputable abbrev fbody19 : List Stmt := Subtype.val (p := fun x => (fdefn 19).2.1 = x) ⟨_, by conv => lhs; whnf⟩
noncomputable abbrev fsco19 : Scope := Subtype.val (p := fun x => (fdefn 19).2.2 = x) ⟨_, by conv => lhs; whnf⟩
noncomputable abbrev fpar20 : Arguments := Subtype.val (p := fun x => (fdefn 20).1 = x) ⟨_, by conv => lhs; whnf⟩
noncomputable abbrev fbody20 : List Stmt := Subtype.val (p := fun x => (fdefn 20).2.1 = x) ⟨_, by conv => lhs; whnf⟩
noncomputable abbrev fsco20 : Scope := Subtype.val (p := fun x => (fdefn 20).2.2 = x) ⟨_, by conv => lhs; whnf⟩
noncomputable abbrev fpar21 : Arguments := Subtype.val (p := fun x => (fdefn 21).1 = x) ⟨_, by conv => lhs; whnf⟩
noncomputable abbrev fbody21 : List Stmt := Subtype.val (p := fun x => (fdefn 21).2.1 = x) ⟨_, by conv => lhs; whnf⟩
noncomputable abbrev fsco21 : Scope := Subtype.val (p := fun x => (fdefn 21).2.2 = x) ⟨_, by conv => lhs; whnf⟩
noncomputable abbrev o2s7 (P : Params) : Obj := ⟨.none, none, (.dict #[⟨H P (S "\x69mport.loaded._sre"), .str (S "\x69mport.loaded._sre") 183, (.bool true)⟩, ⟨H P (S "class._frozen_importlib.BuiltinImporter"), .str (S "class._frozen_importlib.BuiltinImporter") 185, (.ref 14)⟩, ⟨H P (S "watched.\x69mport"), .str (S "watched.\x69mport") 206, (.ref 18)⟩, ⟨H P (S "class._frozen_importlib.ModuleSpec"), .str (S "class._frozen_importlib.ModuleSpec") 216, (.ref 22)⟩, ⟨H P (S "sys.modules.booked-epoch"), .str (S "sys.modules.booked-epoch") 245, (.int 3 0)⟩, ⟨H P (S "\x69mport.later-laid._sre"), .str (S "\x69mport.later-laid._sre") 270, (.bool true)⟩, ⟨H P (S "watched.library"), .str (S "watched.library") 272, (.ref 27)⟩, ⟨H P (S "watched.library-objects"), .str (S "watched.library-objects") 0, (.str (PySem.Str.mk #[12]) 0)⟩, ⟨H P (S "watched.library-deep._sre"), .str (S "watched.library-deep._sre") 273, (.str (PySem.Str.mk #[4, 0, 0, 11, 4, 0, 0, 11, 4, 0, 0, 3, 4, 0, 0, 11, 8, 4, 100, 105, 99, 116, 2]) 0)⟩, ⟨H P (S "type.__subclasses__.Exception.0"), .str (S "type.__subclasses__.Exception.0") 2328, (.int 105 0)⟩, ⟨H P (S "type.__subclasses__.Exception.n"), .str (S "type.__subclasses__.Exception.n") 2329, (.int 1 0)⟩] 11), #[]⟩
noncomputable abbrev o3s21 (P : Params) : Obj := ⟨(.type "dict"), none, (.dict #[⟨H P (S "__name__"), .str (S "__name__") 165, (.str (S "law_tr0050_03") 2428)⟩, ⟨H P (S "__doc__"), .str (S "__doc__") 166, .none⟩, ⟨H P (S "__package__"), .str (S "__package__") 167, .none⟩, ⟨H P (S "__loader__"), .str (S "__loader__") 168, (.builtin "__main__.__loader__#opaque")⟩, ⟨H P (S "__spec__"), .str (S "__spec__") 169, .none⟩, ⟨H P (S "__annotations__"), .str (S "__annotations__") 170, (.ref 6)⟩, ⟨H P (S "__builtins__"), .str (S "__builtins__") 171, (.ref 4)⟩, ⟨H P (S "__file__"), .str (S "__file__") 173, (.str (S "/claim/cut.py") 172)⟩, ⟨H P (S "__cached__"), .str (S "__cached__") 174, .none⟩, ⟨H P (S "_sre"), .str (S "_sre") 275, (.ref 12)⟩, ⟨H P (S "b1_set"), .str (S "b1_set") 343, (.ref 39)⟩, ⟨H P (S "in_table_b1"), .str (S "in_table_b1") 350, (.ref 49)⟩, ⟨H P (S "b3_exceptions"), .str (S "b3_exceptions") 2301, (.ref 50)⟩, ⟨H P (S "map_table_b3"), .str (S "map_table_b3") 2309, (.ref 95)⟩, ⟨H P (S "Error"), .str (S "Error") 2331, (.ref 105)⟩, ⟨H P (S "error_reply"), .str (S "error_reply") 2347, (.ref 118)⟩, ⟨H P (S "parse257"), .str (S "parse257") 2358, (.ref 127)⟩, ⟨H P (S "_twin_re_1"), .str (S "_twin_re_1") 2376, (.ref 132)⟩, ⟨H P (S "_twin_re_2"), .str (S "_twin_re_2") 2418, (.ref 137)⟩, ⟨H P (S "CRLF"), .str (S "CRLF") 2420, (.str (PySem.Str.mk #[13, 10]) 2419)⟩, ⟨H P (S "quotedata"), .str (S "quotedata") 2427, (.ref 144)⟩, ⟨H P (S "_law_unseen"), .str (S "_law_unseen") 2437, (.ref 151)⟩, ⟨H P (S "_law_two"), .str (S "_law_two") 2445, (.ref 158)⟩, ⟨H P (S "_law_three"), .str (S "_law_three") 2453, (.ref 165)⟩, ⟨H P (S "_law_signs"), .str (S "_law_signs") 2461, (.ref 172)⟩, ⟨H P (S "_law_grown"), .str (S "_law_grown") 2467, (.ref 177)⟩, ⟨H P (S "law"), .str (S "law") 2473, (.ref 182)⟩] 27), #[]⟩
noncomputable abbrev o6 (P : Params) : Obj := ⟨(.type "dict"), none, (.dict #[] 0), #[]⟩
noncomputable abbrev o11 (P : Params) : Obj := ⟨(.type "dict"), none, (.dict #[⟨H P (S "__name__"), .str (S "__name__") 247, (.str (S "_sre") 246)⟩, ⟨H P (S "__doc__"), .str (S "__doc__") 248, .none⟩, ⟨H P (S "__package__"), .str (S "__package__") 250, (.str (S "") 249)⟩, ⟨H P (S "__loader__"), .str (S "__loader__") 251, (.builtin "off-the-table:_sre.__loader__:shared#opaque")⟩, ⟨H P (S "__spec__"), .str (S "__spec__") 252, (.builtin "off-the-table:_sre.__spec__:shared#opaque")⟩, ⟨H P (S "compile"), .str (S "compile") 253, (.builtin "_sre.compile")⟩, ⟨H P (S "template"), .str (S "template") 254, (.builtin "off-the-table:_sre.template:shared#opaque")⟩, ⟨H P (S "getcodesize"), .str (S "getcodesize") 255, (.builtin "off-the-table:_sre.getcodesize:shared#opaque")⟩, ⟨H P (S "ascii_iscased"), .str (S "ascii_iscased") 256, (.builtin "off-the-table:_sre.ascii_iscased:shared#opaque")⟩, ⟨H P (S "unicode_iscased"), .str (S "unicode_iscased") 257, (.builtin "off-the-table:_sre.unicode_iscased:shared#opaque")⟩, ⟨H P (S "ascii_tolower"), .str (S "ascii_tolower") 258, (.builtin "off-the-table:_sre.ascii_tolower:shared#opaque")⟩, ⟨H P (S "unicode_tolower"), .str (S "unicode_tolower") 259, (.builtin "off-the-table:_sre.unicode_tolower:shared#opaque")⟩, ⟨H P (S "MAGIC"), .str (S "MAGIC") 261, (.int 20230612 260)⟩, ⟨H P (S "CODESIZE"), .str (S "CODESIZE") 263, (.int 4 262)⟩, ⟨H P (S "MAXREPEAT"), .str (S "MAXREPEAT") 265, (.int 4294967295 264)⟩, ⟨H P (S "MAXGROUPS"), .str (S "MAXGROUPS") 267, (.int 1073741823 266)⟩, ⟨H P (S "copyright"), .str (S "copyright") 269, (.str (S " SRE 2.2.2 Copyright (c) 1997-2002 by Secret Labs AB ") 268)⟩] 17), #[]⟩
noncomputable abbrev o12 (P : Params) : Obj := ⟨(.type "module"), (some 11), .plain, #[]⟩
noncomputable abbrev o39 (P : Params) : Obj := ⟨(.type "set"), none, (.set b1ents.toArray 29 { mask := 127, place := #[0, 1, 2, 3, 4, 5, 6, 7, 8, 9, 10, 11, 12, 13, 14, 15, 16, 17, 18, 19, 20, 21, 22, 45, 79, 96, 127], dummies := #[], finger := 0, led := LED P, moves := 2, plain := true }), #[]⟩
noncomputable abbrev o43 (P : Params) : Obj := ⟨(.type "tuple"), none, (.seq #[] 0), #[]⟩
noncomputable abbrev o44 (P : Params) : Obj := ⟨.none, none, (.fields #[]), #[]⟩
noncomputable abbrev o45 (P : Params) : Obj := ⟨(.type "tuple"), none, (.seq #[(.str (S "code") 347)] 0), #[]⟩
noncomputable abbrev o46 (P : Params) : Obj := ⟨(.type "tuple"), none, (.seq #[] 0), #[]⟩
noncomputable abbrev o47 (P : Params) : Obj := ⟨.none, none, (.func { name := (S "in_table_b1"), qualname := (S "in_table_b1"), params := fpar3, body := .stmts fbody3, scope := fsco3, globals := 0, closure := [], defaults := .none, kwdefaults := .none, doc := .none, pyModule := .none, annotations := none, code := .none, closureTuple := .none, builtins := 0 }), #[]⟩
noncomputable abbrev o48 (P : Params) : Obj := ⟨(.type "code"), none, (.fields #[(.str (S "in_table_b1") 344), (.str (S "in_table_b1") 345), (.str (S "/claim/cut.py") 346), (.int 4 0), (.int 1 0), (.int 0 0), (.int 0 0), (.int 3 0), (.ref 43), (.bool true), (.int 276 0), (.ref 44), .none, (.ref 45), (.ref 46), (.ref 47), (.int 348 0), (.int 4 0), (.str (S "/claim/cut.py") 349)]), #[]⟩
noncomputable abbrev o49 (P : Params) : Obj := ⟨(.type "function"), none, (.func { name := (S "in_table_b1"), qualname := (S "in_table_b1"), params := fpar3, body := .stmts fbody3, scope := fsco3, globals := 3, closure := [], defaults := .none, kwdefaults := .none, doc := .none, pyModule := (.str (S "cpy313.stringprep") 282), annotations := none, code := (.ref 48), closureTuple := .none, builtins := 0 }), #[]⟩
noncomputable abbrev o50 (P : Params) : Obj := ⟨(.type "dict"), none, (.dict b3ents.toArray 650), #[]⟩
noncomputable abbrev o89 (P : Params) : Obj := ⟨(.type "tuple"), none, (.seq #[] 0), #[]⟩
noncomputable abbrev o90 (P : Params) : Obj := ⟨.none, none, (.fields #[]), #[]⟩
noncomputable abbrev o91 (P : Params) : Obj := ⟨(.type "tuple"), none, (.seq #[(.str (S "code") 2305), (.str (S "r") 2306)] 0), #[]⟩
noncomputable abbrev o92 (P : Params) : Obj := ⟨(.type "tuple"), none, (.seq #[] 0), #[]⟩
noncomputable abbrev o93 (P : Params) : Obj := ⟨.none, none, (.func { name := (S "map_table_b3"), qualname := (S "map_table_b3"), params := fpar5, body := .stmts fbody5, scope := fsco5, globals := 0, closure := [], defaults := .none, kwdefaults := .none, doc := .none, pyModule := .none, annotations := none, code := .none, closureTuple := .none, builtins := 0 }), #[]⟩
noncomputable abbrev o94 (P : Params) : Obj := ⟨(.type "code"), none, (.fields #[(.str (S "map_table_b3") 2302), (.str (S "map_table_b3") 2303), (.str (S "/claim/cut.py") 2304), (.int 7 0), (.int 1 0), (.int 0 0), (.int 0 0), (.int 3 0), (.ref 89), (.bool true), (.int 276 0), (.ref 90), .none, (.ref 91), (.ref 92), (.ref 93), (.int 2307 0), (.int 7 0), (.str (S "/claim/cut.py") 2308)]), #[]⟩
noncomputable abbrev o95 (P : Params) : Obj := ⟨(.type "function"), none, (.func { name := (S "map_table_b3"), qualname := (S "map_table_b3"), params := fpar5, body := .stmts fbody5, scope := fsco5, globals := 3, closure := [], defaults := .none, kwdefaults := .none, doc := .none, pyModule := (.str (S "cpy313.stringprep") 282), annotations := none, code := (.ref 94), closureTuple := .none, builtins := 0 }), #[]⟩
noncomputable abbrev o96 (P : Params) : Obj := ⟨(.type "tuple"), none, (.seq #[(.type "Exception")] 0), #[]⟩
noncomputable abbrev o103 (P : Params) : Obj := ⟨(.type "tuple"), none, (.seq #[] 0), #[]⟩
noncomputable abbrev o104 (P : Params) : Obj := ⟨(.type "dict"), none, (.dict #[⟨H P (S "__module__"), .str (S "__module__") 2319, (.str (S "cpy313.ftplib") 2310)⟩, ⟨H P (S "__firstlineno__"), .str (S "__firstlineno__") 2323, (.int 13 2322)⟩, ⟨H P (S "__static_attributes__"), .str (S "__static_attributes__") 2324, (.ref 103)⟩, ⟨H P (S "__weakref__"), .str (S "__weakref__") 2326, (.ref 106)⟩, ⟨H P (S "__doc__"), .str (S "__doc__") 2327, .none⟩] 3), #[]⟩
noncomputable abbrev o105s8 (P : Params) : Obj := ⟨(.type "type"), none, (.cls { name := (S "Error"), bases := [(.type "Exception")], mro := [(.ref 105), (.type "Exception"), (.type "BaseException"), (.type "object")], ns := 104, qualname := (S "Error"), hasDict := true, slotNames := [], subclasses := [(.ref 118)], abstract := false, collection := none, hasDel := false }), #[(some (.ref 96)), none, (some (.str (S "Error") 2312)), (some (.str (S "Error") 2320)), (some (.builtin "Exception.__new__")), (some (.bool true))]⟩
noncomputable abbrev o106 (P : Params) : Obj := ⟨(.type "getset_descriptor"), none, (.fields #[(.str (S "__weakref__") 2325), (.ref 105), (.builtin "ExceptionGroup.__weakref__"), .none]), #[]⟩
noncomputable abbrev o109 (P : Params) : Obj := ⟨(.type "tuple"), none, (.seq #[(.ref 105)] 0), #[]⟩
noncomputable abbrev o116 (P : Params) : Obj := ⟨(.type "tuple"), none, (.seq #[] 0), #[]⟩
noncomputable abbrev o117 (P : Params) : Obj := ⟨(.type "dict"), none, (.dict #[⟨H P (S "__module__"), .str (S "__module__") 2339, (.str (S "cpy313.ftplib") 2310)⟩, ⟨H P (S "__firstlineno__"), .str (S "__firstlineno__") 2343, (.int 15 2342)⟩, ⟨H P (S "__static_attributes__"), .str (S "__static_attributes__") 2344, (.ref 116)⟩, ⟨H P (S "__doc__"), .str (S "__doc__") 2345, .none⟩] 2), #[]⟩
noncomputable abbrev o118 (P : Params) : Obj := ⟨(.type "type"), none, (.cls { name := (S "error_reply"), bases := [(.ref 105)], mro := [(.ref 118), (.ref 105), (.type "Exception"), (.type "BaseException"), (.type "object")], ns := 117, qualname := (S "error_reply"), hasDict := true, slotNames := [], subclasses := [], abstract := false, collection := none, hasDel := false }), #[(some (.ref 109)), none, (some (.str (S "error_reply") 2332)), (some (.str (S "error_reply") 2340)), (some (.builtin "Exception.__new__")), (some (.bool true))]⟩
noncomputable abbrev o121 (P : Params) : Obj := ⟨(.type "tuple"), none, (.seq #[] 0), #[]⟩
noncomputable abbrev o122 (P : Params) : Obj := ⟨.none, none, (.fields #[]), #[]⟩
noncomputable abbrev o123 (P : Params) : Obj := ⟨(.type "tuple"), none, (.seq #[(.str (S "resp") 2351), (.str (S "dirname") 2352), (.str (S "i") 2353), (.str (S "n") 2354), (.str (S "c") 2355)] 0), #[]⟩
noncomputable abbrev o124 (P : Params) : Obj := ⟨(.type "tuple"), none, (.seq #[] 0), #[]⟩
noncomputable abbrev o125 (P : Params) : Obj := ⟨.none, none, (.func { name := (S "parse257"), qualname := (S "parse257"), params := fpar9, body := .stmts fbody9, scope := fsco9, globals := 0, closure := [], defaults := .none, kwdefaults := .none, doc := .none, pyModule := .none, annotations := none, code := .none, closureTuple := .none, builtins := 0 }), #[]⟩
noncomputable abbrev o126 (P : Params) : Obj := ⟨(.type "code"), none, (.fields #[(.str (S "parse257") 2348), (.str (S "parse257") 2349), (.str (S "/claim/cut.py") 2350), (.int 17 0), (.int 1 0), (.int 0 0), (.int 0 0), (.int 3 0), (.ref 121), (.bool true), (.int 276 0), (.ref 122), .none, (.ref 123), (.ref 124), (.ref 125), (.int 2356 0), (.int 17 0), (.str (S "/claim/cut.py") 2357)]), #[]⟩
noncomputable abbrev o127 (P : Params) : Obj := ⟨(.type "function"), none, (.func { name := (S "parse257"), qualname := (S "parse257"), params := fpar9, body := .stmts fbody9, scope := fsco9, globals := 3, closure := [], defaults := .none, kwdefaults := .none, doc := .none, pyModule := (.str (S "cpy313.ftplib") 2310), annotations := none, code := (.ref 126), closureTuple := .none, builtins := 0 }), #[]⟩
noncomputable abbrev o131 (P : Params) : Obj := ⟨(.type "tuple"), none, (.seq #[(.int 14 0), (.int 4 0), (.int 0 0), (.int 1 0), (.int 1 0), (.int 6 0), (.int 1 0), (.int 16 0), (.int 46 0), (.int 1 0)] 0), #[]⟩
noncomputable abbrev o132 (P : Params) : Obj := ⟨(.type "re.Pattern"), none, (.fields #[(.str (PySem.Str.mk #[40, 63, 109, 41, 94, 92, 46]) 2362), (.int 40 2375), (.int 0 0), .none, .none, (.ref 131), (.int 0 0)]), #[]⟩
noncomputable abbrev o136 (P : Params) : Obj := ⟨(.type "tuple"), none, (.seq #[(.int 14 0), (.int 9 0), (.int 4 0), (.int 1 0), (.int 2 0), (.int 16 0), (.int 10 0), (.int 16 0), (.int 13 0), (.int 0 0), (.int 7 0), (.int 7 0), (.int 16 0), (.int 13 0), (.int 16 0), (.int 10 0), (.int 15 0), (.int 18 0), (.int 5 0), (.int 16 0), (.int 10 0), (.int 15 0), (.int 13 0), (.int 11 0), (.int 16 0), (.int 13 0), (.int 5 0), (.int 5 0), (.int 0 0), (.int 16 0), (.int 10 0), (.int 1 0), (.int 15 0), (.int 2 0), (.int 0 0), (.int 1 0)] 0), #[]⟩
noncomputable abbrev o137 (P : Params) : Obj := ⟨(.type "re.Pattern"), none, (.fields #[(.str (PySem.Str.mk #[40, 63, 58, 92, 114, 92, 110, 124, 92, 110, 124, 92, 114, 40, 63, 33, 92, 110, 41, 41]) 2378), (.int 32 2417), (.int 0 0), .none, .none, (.ref 136), (.int 0 0)]), #[]⟩
noncomputable abbrev o138 (P : Params) : Obj := ⟨(.type "tuple"), none, (.seq #[] 0), #[]⟩
noncomputable abbrev o139 (P : Params) : Obj := ⟨.none, none, (.fields #[]), #[]⟩
noncomputable abbrev o140 (P : Params) : Obj := ⟨(.type "tuple"), none, (.seq #[(.str (S "data") 2424)] 0), #[]⟩
noncomputable abbrev o141 (P : Params) : Obj := ⟨(.type "tuple"), none, (.seq #[] 0), #[]⟩
noncomputable abbrev o142 (P : Params) : Obj := ⟨.none, none, (.func { name := (S "quotedata"), qualname := (S "quotedata"), params := fpar14, body := .stmts fbody14, scope := fsco14, globals := 0, closure := [], defaults := .none, kwdefaults := .none, doc := .none, pyModule := .none, annotations := none, code := .none, closureTuple := .none, builtins := 0 }), #[]⟩
noncomputable abbrev o143 (P : Params) : Obj := ⟨(.type "code"), none, (.fields #[(.str (S "quotedata") 2421), (.str (S "quotedata") 2422), (.str (S "/claim/cut.py") 2423), (.int 38 0), (.int 1 0), (.int 0 0), (.int 0 0), (.int 3 0), (.ref 138), (.bool true), (.int 276 0), (.ref 139), .none, (.ref 140), (.ref 141), (.ref 142), (.int 2425 0), (.int 38 0), (.str (S "/claim/cut.py") 2426)]), #[]⟩
noncomputable abbrev o144 (P : Params) : Obj := ⟨(.type "function"), none, (.func { name := (S "quotedata"), qualname := (S "quotedata"), params := fpar14, body := .stmts fbody14, scope := fsco14, globals := 3, closure := [], defaults := .none, kwdefaults := .none, doc := .none, pyModule := (.str (S "cpy313.smtplib") 2359), annotations := none, code := (.ref 143), closureTuple := .none, builtins := 0 }), #[]⟩
noncomputable abbrev o145 (P : Params) : Obj := ⟨(.type "tuple"), none, (.seq #[] 0), #[]⟩
noncomputable abbrev o146 (P : Params) : Obj := ⟨.none, none, (.fields #[]), #[]⟩
noncomputable abbrev o147 (P : Params) : Obj := ⟨(.type "tuple"), none, (.seq #[(.str (S "k") 2433), (.str (S "codes") 2434)] 0), #[]⟩
noncomputable abbrev o148 (P : Params) : Obj := ⟨(.type "tuple"), none, (.seq #[] 0), #[]⟩
noncomputable abbrev o149 (P : Params) : Obj := ⟨.none, none, (.func { name := (S "_law_unseen"), qualname := (S "_law_unseen"), params := fpar16, body := .stmts fbody16, scope := fsco16, globals := 0, closure := [], defaults := .none, kwdefaults := .none, doc := .none, pyModule := .none, annotations := none, code := .none, closureTuple := .none, builtins := 0 }), #[]⟩
noncomputable abbrev o150 (P : Params) : Obj := ⟨(.type "code"), none, (.fields #[(.str (S "_law_unseen") 2430), (.str (S "_law_unseen") 2431), (.str (S "/claim/cut.py") 2432), (.int 41 0), (.int 1 0), (.int 0 0), (.int 0 0), (.int 3 0), (.ref 145), (.bool true), (.int 276 0), (.ref 146), .none, (.ref 147), (.ref 148), (.ref 149), (.int 2435 0), (.int 41 0), (.str (S "/claim/cut.py") 2436)]), #[]⟩
noncomputable abbrev o151 (P : Params) : Obj := ⟨(.type "function"), none, (.func { name := (S "_law_unseen"), qualname := (S "_law_unseen"), params := fpar16, body := .stmts fbody16, scope := fsco16, globals := 3, closure := [], defaults := .none, kwdefaults := .none, doc := .none, pyModule := (.str (S "law_tr0050_03") 2428), annotations := none, code := (.ref 150), closureTuple := .none, builtins := 0 }), #[]⟩
noncomputable abbrev o152 (P : Params) : Obj := ⟨(.type "tuple"), none, (.seq #[] 0), #[]⟩
noncomputable abbrev o153 (P : Params) : Obj := ⟨.none, none, (.fields #[]), #[]⟩
noncomputable abbrev o154 (P : Params) : Obj := ⟨(.type "tuple"), none, (.seq #[(.str (S "k") 2441), (.str (S "pairs") 2442)] 0), #[]⟩
noncomputable abbrev o155 (P : Params) : Obj := ⟨(.type "tuple"), none, (.seq #[] 0), #[]⟩
noncomputable abbrev o156 (P : Params) : Obj := ⟨.none, none, (.func { name := (S "_law_two"), qualname := (S "_law_two"), params := fpar17, body := .stmts fbody17, scope := fsco17, globals := 0, closure := [], defaults := .none, kwdefaults := .none, doc := .none, pyModule := .none, annotations := none, code := .none, closureTuple := .none, builtins := 0 }), #[]⟩
noncomputable abbrev o157 (P : Params) : Obj := ⟨(.type "code"), none, (.fields #[(.str (S "_law_two") 2438), (.str (S "_law_two") 2439), (.str (S "/claim/cut.py") 2440), (.int 44 0), (.int 1 0), (.int 0 0), (.int 0 0), (.int 3 0), (.ref 152), (.bool true), (.int 276 0), (.ref 153), .none, (.ref 154), (.ref 155), (.ref 156), (.int 2443 0), (.int 44 0), (.str (S "/claim/cut.py") 2444)]), #[]⟩
noncomputable abbrev o158 (P : Params) : Obj := ⟨(.type "function"), none, (.func { name := (S "_law_two"), qualname := (S "_law_two"), params := fpar17, body := .stmts fbody17, scope := fsco17, globals := 3, closure := [], defaults := .none, kwdefaults := .none, doc := .none, pyModule := (.str (S "law_tr0050_03") 2428), annotations := none, code := (.ref 157), closureTuple := .none, builtins := 0 }), #[]⟩
noncomputable abbrev o159 (P : Params) : Obj := ⟨(.type "tuple"), none, (.seq #[] 0), #[]⟩
noncomputable abbrev o160 (P : Params) : Obj := ⟨.none, none, (.fields #[]), #[]⟩
noncomputable abbrev o161 (P : Params) : Obj := ⟨(.type "tuple"), none, (.seq #[(.str (S "k") 2449), (.str (S "pairs") 2450)] 0), #[]⟩
noncomputable abbrev o162 (P : Params) : Obj := ⟨(.type "tuple"), none, (.seq #[] 0), #[]⟩
noncomputable abbrev o163 (P : Params) : Obj := ⟨.none, none, (.func { name := (S "_law_three"), qualname := (S "_law_three"), params := fpar18, body := .stmts fbody18, scope := fsco18, globals := 0, closure := [], defaults := .none, kwdefaults := .none, doc := .none, pyModule := .none, annotations := none, code := .none, closureTuple := .none, builtins := 0 }), #[]⟩
noncomputable abbrev o164 (P : Params) : Obj := ⟨(.type "code"), none, (.fields #[(.str (S "_law_three") 2446), (.str (S "_law_three") 2447), (.str (S "/claim/cut.py") 2448), (.int 47 0), (.int 1 0), (.int 0 0), (.int 0 0), (.int 3 0), (.ref 159), (.bool true), (.int 276 0), (.ref 160), .none, (.ref 161), (.ref 162), (.ref 163), (.int 2451 0), (.int 47 0), (.str (S "/claim/cut.py") 2452)]), #[]⟩
noncomputable abbrev o165 (P : Params) : Obj := ⟨(.type "function"), none, (.func { name := (S "_law_three"), qualname := (S "_law_three"), params := fpar18, body := .stmts fbody18, scope := fsco18, globals := 3, closure := [], defaults := .none, kwdefaults := .none, doc := .none, pyModule := (.str (S "law_tr0050_03") 2428), annotations := none, code := (.ref 164), closureTuple := .none, builtins := 0 }), #[]⟩
noncomputable abbrev o166 (P : Params) : Obj := ⟨(.type "tuple"), none, (.seq #[] 0), #[]⟩
noncomputable abbrev o167 (P : Params) : Obj := ⟨.none, none, (.fields #[]), #[]⟩
noncomputable abbrev o168 (P : Params) : Obj := ⟨(.type "tuple"), none, (.seq #[(.str (S "often") 2457), (.str (S "k") 2458)] 0), #[]⟩
noncomputable abbrev o169 (P : Params) : Obj := ⟨(.type "tuple"), none, (.seq #[] 0), #[]⟩
noncomputable abbrev o170 (P : Params) : Obj := ⟨.none, none, (.func { name := (S "_law_signs"), qualname := (S "_law_signs"), params := fpar19, body := .stmts fbody19, scope := fsco19, globals := 0, closure := [], defaults := .none, kwdefaults := .none, doc := .none, pyModule := .none, annotations := none, code := .none, closureTuple := .none, builtins := 0 }), #[]⟩
noncomputable abbrev o171 (P : Params) : Obj := ⟨(.type "code"), none, (.fields #[(.str (S "_law_signs") 2454), (.str (S "_law_signs") 2455), (.str (S "/claim/cut.py") 2456), (.int 50 0), (.int 2 0), (.int 0 0), (.int 0 0), (.int 3 0), (.ref 166), (.bool true), (.int 276 0), (.ref 167), .none, (.ref 168), (.ref 169), (.ref 170), (.int 2459 0), (.int 50 0), (.str (S "/claim/cut.py") 2460)]), #[]⟩
noncomputable abbrev o172 (P : Params) : Obj := ⟨(.type "function"), none, (.func { name := (S "_law_signs"), qualname := (S "_law_signs"), params := fpar19, body := .stmts fbody19, scope := fsco19, globals := 3, closure := [], defaults := .none, kwdefaults := .none, doc := .none, pyModule := (.str (S "law_tr0050_03") 2428), annotations := none, code := (.ref 171), closureTuple := .none, builtins := 0 }), #[]⟩
noncomputable abbrev o173 (P : Params) : Obj := ⟨(.type "tuple"), none, (.seq #[] 0), #[]⟩
noncomputable abbrev o174 (P : Params) : Obj := ⟨.none, none, (.fields #[]), #[]⟩
noncomputable abbrev o175 (P : Params) : Obj := ⟨.none, none, (.func { name := (S "_law_grown"), qualname := (S "_law_grown"), params := fpar20, body := .stmts fbody20, scope := fsco20, globals := 0, closure := [], defaults := .none, kwdefaults := .none, doc := .none, pyModule := .none, annotations := none, code := .none, closureTuple := .none, builtins := 0 }), #[]⟩
noncomputable abbrev o176 (P : Params) : Obj := ⟨(.type "code"), none, (.fields #[(.str (S "_law_grown") 2462), (.str (S "_law_grown") 2463), (.str (S "/claim/cut.py") 2464), (.int 56 0), (.int 3 0), (.int 0 0), (.int 0 0), (.int 3 0), (.ref 173), (.bool true), (.int 276 0), (.ref 174), .none, .none, .none, (.ref 175), (.int 2465 0), (.int 56 0), (.str (S "/claim/cut.py") 2466)]), #[]⟩
noncomputable abbrev o177 (P : Params) : Obj := ⟨(.type "function"), none, (.func { name := (S "_law_grown"), qualname := (S "_law_grown"), params := fpar20, body := .stmts fbody20, scope := fsco20, globals := 3, closure := [], defaults := .none, kwdefaults := .none, doc := .none, pyModule := (.str (S "law_tr0050_03") 2428), annotations := none, code := (.ref 176), closureTuple := .none, builtins := 0 }), #[]⟩
noncomputable abbrev o178 (P : Params) : Obj := ⟨(.type "tuple"), none, (.seq #[] 0), #[]⟩
noncomputable abbrev o179 (P : Params) : Obj := ⟨.none, none, (.fields #[]), #[]⟩
noncomputable abbrev o180 (P : Params) : Obj := ⟨.none, none, (.func { name := (S "law"), qualname := (S "law"), params := fpar21, body := .stmts fbody21, scope := fsco21, globals := 0, closure := [], defaults := .none, kwdefaults := .none, doc := .none, pyModule := .none, annotations := none, code := .none, closureTuple := .none, builtins := 0 }), #[]⟩
noncomputable abbrev o181 (P : Params) : Obj := ⟨(.type "code"), none, (.fields #[(.str (S "law") 2468), (.str (S "law") 2469), (.str (S "/claim/cut.py") 2470), (.int 79 0), (.int 1 0), (.int 0 0), (.int 0 0), (.int 3 0), (.ref 178), (.bool true), (.int 276 0), (.ref 179), .none, .none, .none, (.ref 180), (.int 2471 0), (.int 79 0), (.str (S "/claim/cut.py") 2472)]), #[]⟩
noncomputable abbrev o182 (P : Params) : Obj := ⟨(.type "function"), none, (.func { name := (S "law"), qualname := (S "law"), params := fpar21, body := .stmts fbody21, scope := fsco21, globals := 3, closure := [], defaults := .none, kwdefaults := .none, doc := .none, pyModule := (.str (S "law_tr0050_03") 2428), annotations := none, code := (.ref 181), closureTuple := .none, builtins := 0 }), #[]⟩
noncomputable def K (P : Params) : Frag := (nat_lit 2, o2s7 P) :: (nat_lit 3, o3s21 P) :: (nat_lit 6, o6 P) :: (nat_lit 11, o11 P) :: (nat_lit 12, o12 P) :: (nat_lit 39, o39 P) :: (nat_lit 43, o43 P) :: (nat_lit 44, o44 P) :: (nat_lit 45, o45 P) :: (nat_lit 46, o46 P) :: (nat_lit 47, o47 P) :: (nat_lit 48, o48 P) :: (nat_lit 49, o49 P) :: (nat_lit 50, o50 P) :: (nat_lit 89, o89 P) :: (nat_lit 90, o90 P) :: (nat_lit 91, o91 P) :: (nat_lit 92, o92 P) :: (nat_lit 93, o93 P) :: (nat_lit 94, o94 P) :: (nat_lit 95, o95 P) :: (nat_lit 96, o96 P) :: (nat_lit 103, o103 P) :: (nat_lit 104, o104 P) :: (nat_lit 105, o105s8 P) :: (nat_lit 106, o106 P) :: (nat_lit 109, o109 P) :: (nat_lit 116, o116 P) :: (nat_lit 117, o117 P) :: (nat_lit 118, o118 P) :: (nat_lit 121, o121 P) :: (nat_lit 122, o122 P) :: (nat_lit 123, o123 P) :: (nat_lit 124, o124 P) :: (nat_lit 125, o125 P) :: (nat_lit 126, o126 P) :: (nat_lit 127, o127 P) :: (nat_lit 131, o131 P) :: (nat_lit 132, o132 P) :: (nat_lit 136, o136 P) :: (nat_lit 137, o137 P) :: (nat_lit 138, o138 P) :: (nat_lit 139, o139 P) :: (nat_lit 140, o140 P) :: (nat_lit 141, o141 P) :: (nat_lit 142, o142 P) :: (nat_lit 143, o143 P) :: (nat_lit 144, o144 P) :: (nat_lit 145, o145 P) :: (nat_lit 146, o146 P) :: (nat_lit 147, o147 P) :: (nat_lit 148, o148 P) :: (nat_lit 149, o149 P) :: (nat_lit 150, o150 P) :: (nat_lit 151, o151 P) :: (nat_lit 152, o152 P) :: (nat_lit 153, o153 P) :: (nat_lit 154, o154 P) :: (nat_lit 155, o155 P) :: (nat_lit 156, o156 P) :: (nat_lit 157, o157 P) :: (nat_lit 158, o158 P) :: (nat_lit 159, o159 P) :: (nat_lit 160, o160 P) :: (nat_lit 161, o161 P) :: (nat_lit 162, o162 P) :: (nat_lit 163, o163 P) :: (nat_lit 164, o164 P) :: (nat_lit 165, o165 P) :: (nat_lit 166, o166 P) :: (nat_lit 167, o167 P) :: (nat_lit 168, o168 P) :: (nat_lit 169, o169 P) :: (nat_lit 170, o170 P) :: (nat_lit 171, o171 P) :: (nat_lit 172, o172 P) :: (nat_lit 173, o173 P) :: (nat_lit 174, o174 P) :: (nat_lit 175, o175 P) :: (nat_lit 176, o176 P) :: (nat_lit 177, o177 P) :: (nat_lit 178, o178 P) :: (nat_lit 179, o179 P) :: (nat_lit 180, o180 P) :: (nat_lit 181, o181 P) :: (nat_lit 182, o182 P) :: []
noncomputable def asK : List Addr := nat_lit 2 :: nat_lit 3 :: nat_lit 6 :: nat_lit 11 :: nat_lit 12 :: nat_lit 39 :: nat_lit 43 :: nat_lit 44 :: nat_lit 45 :: nat_lit 46 :: nat_lit 47 :: nat_lit 48 :: nat_lit 49 :: nat_lit 50 :: nat_lit 89 :: nat_lit 90 :: nat_lit 91 :: nat_lit 92 :: nat_lit 93 :: nat_lit 94 :: nat_lit 95 :: nat_lit 96 :: nat_lit 103 :: nat_lit 104 :: nat_lit 105 :: nat_lit 106 :: nat_lit 109 :: nat_lit 116 :: nat_lit 117 :: nat_lit 118 :: nat_lit 121 :: nat_lit 122 :: nat_lit 123 :: nat_lit 124 :: nat_lit 125 :: nat_lit 126 :: nat_lit 127 :: nat_lit 131 :: nat_lit 132 :: nat_lit 136 :: nat_lit 137 :: nat_lit 138 :: nat_lit 139 :: nat_lit 140 :: nat_lit 141 :: nat_lit 142 :: nat_lit 143 :: nat_lit 144 :: nat_lit 145 :: nat_lit 146 :: nat_lit 147 :: nat_lit 148 :: nat_lit 149 :: nat_lit 150 :: nat_lit 151 :: nat_lit 152 :: nat_lit 153 :: nat_lit 154 :: nat_lit 155 :: nat_lit 156 :: nat_lit 157 :: nat_lit 158 :: nat_lit 159 :: nat_lit 160 :: nat_lit 161 :: nat_lit 162 :: nat_lit 163 :: nat_lit 164 :: nat_lit 165 :: nat_lit 166 :: nat_lit 167 :: nat_lit 168 :: nat_lit 169 :: nat_lit 170 :: nat_lit 171 :: nat_lit 172 :: nat_lit 173 :: nat_lit 174 :: nat_lit 175 :: nat_lit 176 :: nat_lit 177 :: nat_lit 178 :: nat_lit 179 :: nat_lit 180 :: nat_lit 181 :: nat_lit 182 :: []
end Mine

end
section
open PySem PySem.W PyProof.Rows
set_option Elab.async false
set_option maxRecDepth 100000
set_option linter.unusedVariables false
namespace Mine
noncomputable abbrev qbody : List Stmt := Subtype.val (p := fun x => [0, 2, 3, 4, 5, 7, 8, 9, 11, 12, 13, 14, 16, 17, 18, 19, 20, 21].filterMap (fun i => pw.main.body[i]?) = x) ⟨_, by conv => lhs; whnf⟩
noncomputable def q01 : Program := { pw with main := { pw.main with body := qbody } }
noncomputable def loose01 : List PySem.Str := [S "_twin_re_1", S "_twin_re_2", S "b1_set", S "b3_exceptions"]
noncomputable abbrev HK : Hook := kHook K asK (fun _ => by kernel_rfl)
noncomputable abbrev Xt01 : Shared → Bool := fun s => xlAt q01 [] s && recOk (RowW.records PySem.Challenge.rw_tr0050_03.row.toRowW) s

end Mine

end
section
open PySem PySem.W PyProof.Rows
set_option Elab.async false
set_option maxRecDepth 100000
set_option linter.unusedVariables false
namespace Mine
noncomputable abbrev dtop : List Frame := [topFrame ⟨0, 0, 0, 0⟩]
section
variable (pw : Program) (w : World) (os : OsState) (c : Code)

noncomputable abbrev sT (T : BT) (n t : Nat) : SharedT := ⟨T, n, {}, #[], {}, t, os⟩

/-- big step: the tree `x` ends with `a`, from one store to another, in at most `B` steps -/
noncomputable def Ev {α : Type} (B : Nat) (s : SharedT) (p : Pos) (x : Sem α) (a : α) (s' : SharedT) (p' : Pos) : Prop :=
  ∃ k, k ≤ B ∧ ∀ (K : α → Sem Fin) (H : Value → Sem Fin) (gd : Bool → Bool) (lv : List Value → List Value),
    segGoT treeTable pw w 28 (some (.ref 6)) 1 k s ⟨x.wrap K H gd lv, c, p, dtop⟩ = some (s', ⟨K a, c, p', dtop⟩)

variable {pw w os c}
theorem segGoT_add : ∀ (k l : Nat) (s s' : SharedT) (t t' : Thread),
    segGoT treeTable pw w 28 (some (.ref 6)) 1 k s t = some (s', t') →
    segGoT treeTable pw w 28 (some (.ref 6)) 1 (k + l) s t = segGoT treeTable pw w 28 (some (.ref 6)) 1 l s' t'
  | 0, l, s, s', t, t', h => by
    simp only [segGoT, Option.some.injEq, Prod.mk.injEq] at h
    obtain ⟨rfl, rfl⟩ := h
    rw [Nat.zero_add]
  | k + 1, l, s, s', t, t', h => by
    rw [show k + 1 + l = (k + l) + 1 by omega]
    unfold segGoT at h
    conv => lhs; unfold segGoT
    cases e1 : endAt 1 t with
    | some f => rw [e1] at h; cases h
    | none =>
      rw [e1] at h
      cases e2 : stepOk 28 (some (.ref 6)) t with
      | false => rw [e2] at h; cases h
      | true =>
        rw [e2] at h
        cases e3 : stepT (denote treeTable) pw w s t with
        | none => rw [e3] at h; cases h
        | some st => rw [e3] at h; exact segGoT_add k l _ _ _ _ h

section rules
variable {α β : Type} {s s' s₂ : SharedT} {p p' p₂ : Pos}
theorem Ev.le {B B' : Nat} {x : Sem α} {a : α} (h : Ev pw w c B s p x a s' p') (l : B ≤ B') : Ev pw w c B' s p x a s' p' := by
  obtain ⟨k, hk, h⟩ := h
  exact ⟨k, Nat.le_trans hk l, h⟩
theorem Ev.pure {a : α} : Ev pw w c 0 s p (.pure a) a s p := ⟨0, Nat.le_refl _, fun _ _ _ _ => rfl⟩
theorem Ev.bind {B B' : Nat} {x : Sem α} {f : α → Sem β} {a : α} {b : β} (h : Ev pw w c B s p x a s' p') (k : Ev pw w c B' s' p' (f a) b s₂ p₂) : Ev pw w c (B' + B) s p (x.bind f) b s₂ p₂ := by
  obtain ⟨n, hn, h⟩ := h
  obtain ⟨m, hm, k⟩ := k
  refine ⟨n + m, by omega, fun K H gd lv => ?_⟩
  rw [Sem.bind_eq_wrap, Sem.wrap_wrap, segGoT_add _ _ _ _ _ _ (h _ _ _ _)]
  exact k K H gd lv
theorem Ev.keep {B : Nat} {x : Sem α} {a : α} {vs : List Value} (h : Ev pw w c B s p x a s' p') : Ev pw w c B s p (x.keep vs) a s' p' := by
  obtain ⟨n, hn, h⟩ := h
  exact ⟨n, hn, fun K H gd lv => by rw [Sem.keep_eq_wrap, Sem.wrap_wrap]; exact h _ _ _ _⟩
theorem Ev.holding {B : Nat} {x : Sem α} {a : α} {vs : List Value} (h : Ev pw w c B s p x a s' p') : Ev pw w c B s p (holding vs x) a s' p' := by
  unfold PySem.holding
  split
  · exact h
  · exact h.keep
theorem Ev.onRaise {B : Nat} {x : Sem α} {a : α} {f : Value → Sem Unit} (h : Ev pw w c B s p x a s' p') : Ev pw w c B s p (x.onRaise f) a s' p' := by
  obtain ⟨n, hn, h⟩ := h
  exact ⟨n, hn, fun K H gd lv => by rw [Sem.onRaise_eq_wrap, Sem.wrap_wrap]; exact h _ _ _ _⟩
theorem Ev.steps {B : Nat} {x : Sem α} {y : Sem α} {a : α} {k : Nat} (e : ∀ (K : α → Sem Fin) (H : Value → Sem Fin) (gd : Bool → Bool) (lv : List Value → List Value),
    segGoT treeTable pw w 28 (some (.ref 6)) 1 k s ⟨x.wrap K H gd lv, c, p, dtop⟩ = some (s', ⟨y.wrap K H gd lv, c, p', dtop⟩)) (h : Ev pw w c B s' p' y a s₂ p₂) : Ev pw w c (B + k) s p x a s₂ p₂ := by
  obtain ⟨n, hn, h⟩ := h
  exact ⟨k + n, by omega, fun K H gd lv => by rw [segGoT_add _ _ _ _ _ _ (e K H gd lv)]; exact h K H gd lv⟩
/-- one step of the outer tree -/
theorem Ev.step {B : Nat} {x y : Sem α} {a : α} (e : ∀ (K : α → Sem Fin) (H : Value → Sem Fin) (gd : Bool → Bool) (lv : List Value → List Value),
    segGoT treeTable pw w 28 (some (.ref 6)) 1 1 s ⟨x.wrap K H gd lv, c, p, dtop⟩ = some (s', ⟨y.wrap K H gd lv, c, p', dtop⟩)) (h : Ev pw w c B s' p' y a s₂ p₂) : Ev pw w c (B + 1) s p x a s₂ p₂ := Ev.steps e h
theorem Ev.all {x : Sem α} {a : α} {k : Nat} (e : ∀ (K : α → Sem Fin) (H : Value → Sem Fin) (gd : Bool → Bool) (lv : List Value → List Value),
    segGoT treeTable pw w 28 (some (.ref 6)) 1 k s ⟨x.wrap K H gd lv, c, p, dtop⟩ = some (s', ⟨K a, c, p', dtop⟩)) : Ev pw w c k s p x a s' p' := ⟨k, Nat.le_refl _, e⟩
end rules
section rules
variable {α β : Type} {T T' : BT} {n t : Nat} {B : Nat} {s₂ : SharedT} {p p' p₂ : Pos}
theorem Ev.load {i : Addr} {q : Option Value} {k : Obj → Sem α} {a : α} {o : Obj} (hi : i < n) (hg : T.get i = some o) (ha : alive o = some o)
    (h : Ev pw w c B (sT os T n t) p (k o) a s₂ p₂) : Ev pw w c (B + 1) (sT os T n t) p (.load i q k) a s₂ p₂ := by
  refine Ev.step (fun K H gd lv => ?_) h
  have e : Nat.blt i n = true := Nat.ble_eq_true_of_le hi
  simp only [segGoT, Sem.wrap, endAt]
  simp only [stepT, e, hg, ha]
  rfl
theorem Ev.update {i : Addr} {q : Option Value} {f : Obj → Obj} {k : Unit → Sem α} {a : α} {o : Obj} (hi : i < n) (h28 : 28 ≤ i) (hg : T.get i = some o) (ha : alive o = some o)
    (h : Ev pw w c B (sT os (T.set i f) n t) p (k ()) a s₂ p₂) : Ev pw w c (B + 1) (sT os T n t) p (.update i q f k) a s₂ p₂ := by
  refine Ev.step (fun K H gd lv => ?_) h
  have e : Nat.blt i n = true := Nat.ble_eq_true_of_le hi
  have e2 : Nat.ble 28 i = true := Nat.ble_eq_true_of_le h28
  simp only [segGoT, Sem.wrap, endAt, stepOk, e2, Bool.true_or]
  simp only [stepT, e, hg, ha]
  rfl
theorem Ev.alloc {o : Obj} {k : Addr → Sem α} {a : α} (hg : ((T.ins n o).get n).isSome = true)
    (h : Ev pw w c B (sT os (T.ins n o) (n + 1) t) p (k n) a s₂ p₂) : Ev pw w c (B + 1) (sT os T n t) p (.alloc o k) a s₂ p₂ := by
  refine Ev.step (fun K H gd lv => ?_) h
  simp only [segGoT, Sem.wrap, endAt]
  simp only [stepT, hg]
  rfl
theorem Ev.rule {r : String} {k : Unit → Sem α} {a : α} (h : Ev pw w c B (sT os T n t) p (k ()) a s₂ p₂) : Ev pw w c (B + 1) (sT os T n t) p (.rule r k) a s₂ p₂ :=
  Ev.step (fun K H gd lv => rfl) h
theorem Ev.stand {q : Pos} {k : Unit → Sem α} {a : α} (h : Ev pw w c B (sT os T n t) q (k ()) a s₂ p₂) : Ev pw w c (B + 1) (sT os T n t) p (.at q k) a s₂ p₂ :=
  Ev.step (fun K H gd lv => rfl) h
theorem Ev.fresh {k : Tok → Sem α} {a : α} (h : Ev pw w c B (sT os T n (t + 1)) p (k t) a s₂ p₂) : Ev pw w c (B + 1) (sT os T n t) p (.fresh k) a s₂ p₂ :=
  Ev.step (fun K H gd lv => rfl) h
end rules
end
end Mine

end
section
open PySem PySem.W PyProof.Rows
set_option Elab.async false
set_option maxRecDepth 100000
set_option linter.unusedVariables false
namespace Mine
noncomputable def hv (x : Int) : Int := 
  let h : Int := x.natAbs % (2 ^ 61 - 1 : Nat)
  let h := if x < 0 then -h else h
  if h == -1 then -2 else h
theorem hv_of {x : Int} (h0 : 0 ≤ x) (h1 : x < 2 ^ 60) : hv x = x := by
  have a : ¬ x < 0 := by omega
  have b : ((x.natAbs : Int) % ((2 ^ 61 - 1 : Nat) : Int)) = x := by omega
  have c : ¬ x = -1 := by omega
  show (if ((if x < 0 then -((x.natAbs : Int) % ((2 ^ 61 - 1 : Nat) : Int)) else ((x.natAbs : Int) % ((2 ^ 61 - 1 : Nat) : Int))) == -1) = true then (-2 : Int) else if x < 0 then -((x.natAbs : Int) % ((2 ^ 61 - 1 : Nat) : Int)) else ((x.natAbs : Int) % ((2 ^ 61 - 1 : Nat) : Int))) = x
  rw [b, if_neg a, if_neg (by simpa using c)]
theorem red_of {x : Int} (h0 : 0 ≤ x) (h1 : x < 2 ^ 60) : pyHashByItsType.reduced x = .pure x := by
  unfold pyHashByItsType.reduced
  have a : (decide (-(2 ^ 63 : Int) ≤ x) && decide (x < 2 ^ 63)) = true := by simp; omega
  rw [if_pos a]
  have c : ¬ x = -1 := by omega
  simp [c]
  rfl
section
variable {pw : Program} {w : World} {os : OsState} {bd : List Stmt} {env : Env} {T : BT} {n t tk : Nat} {p : Pos}
noncomputable abbrev cE (bd : List Stmt) (env : Env) : Code := .body bd env
theorem hash_steps (w : World) (x : Int) (K : Int → Sem Fin) (H : Value → Sem Fin) (gd : Bool → Bool) (lv : List Value → List Value) :
    segGoT treeTable pw w 28 (some (.ref 6)) 1 5 (sT os T n t) ⟨(pyHash (.int x tk)).wrap K H gd lv, cE bd env, p, dtop⟩ = some (sT os T n (t + 1), ⟨(pyHashByItsType.reduced (hv x)).wrap K H gd lv, cE bd env, p, dtop⟩) :=
  byRow2 "special-get-raises" (P := fun w => segGoT treeTable pw w 28 (some (.ref 6)) 1 5 (sT os T n t) ⟨(pyHash (.int x tk)).wrap K H gd lv, cE bd env, p, dtop⟩ = some (sT os T n (t + 1), ⟨(pyHashByItsType.reduced (hv x)).wrap K H gd lv, cE bd env, p, dtop⟩))
    (fun w => by kernel_rfl) (fun w => by kernel_rfl) w
theorem ev_hash {x : Int} (h0 : 0 ≤ x) (h1 : x < 2 ^ 60) : Ev pw w (cE bd env) (5) (sT os T n t) p (pyHash (.int x tk)) x (sT os T n (t + 1)) p := by
  refine Ev.steps (hash_steps w x) ?_
  rw [hv_of h0 h1, red_of h0 h1]
  exact Ev.pure

noncomputable def dO (es : Array DictEntry) (e : Nat) : Obj := ⟨.type "dict", none, .dict es e, #[]⟩
theorem alive_dO (es : Array DictEntry) (e : Nat) : alive (dO es e) = some (dO es e) := rfl
theorem places_nil {es : Array DictEntry} {x : Int} (h : ∀ a ∈ es, a.hash ≠ x) : placesWithHash es.size (fun i => es[i]?.map (·.hash)) x = [] := by
  unfold placesWithHash
  rw [List.filter_eq_nil_iff]
  intro i hi
  have hi : i < es.size := by simpa using hi
  simp only [Array.getElem?_eq_getElem hi, Option.map_some, beq_iff_eq, Option.some.injEq]
  exact h _ (Array.getElem_mem hi)
variable {d : Addr} {es : Array DictEntry} {e : Nat} {x : Int}
theorem ev_entries {q : Option Value} (hd : d < n) (hg : T.get d = some (dO es e)) : Ev pw w (cE bd env) (1) (sT os T n t) p (dictEntries d q) es (sT os T n t) p :=
  Ev.load hd hg (alive_dO es e) Ev.pure
theorem ev_epoch {q : Option Value} (hd : d < n) (hg : T.get d = some (dO es e)) : Ev pw w (cE bd env) (1) (sT os T n t) p (dictEpoch d q) e (sT os T n t) p :=
  Ev.load hd hg (alive_dO es e) Ev.pure
theorem ev_miss (hd : d < n) (hg : T.get d = some (dO es e)) (hm : ∀ a ∈ es, a.hash ≠ x) : Ev pw w (cE bd env) (1) (sT os T n t) p (dictFind d (.int x tk) x) none (sT os T n t) p := by
  unfold dictFind
  refine Ev.holding ?_
  refine Ev.bind (ev_entries hd hg) ?_
  simp only [places_nil hm]
  exact Ev.pure
theorem get_same {T : BT} {i : Nat} {f : Obj → Obj} {o : Obj} (h : T.get i = some o) : (T.set i f).get i = some (f o) := by
  rw [BT.get_set, if_pos rfl, h]; rfl
theorem get_other {T : BT} {i j : Nat} {f : Obj → Obj} (h : j ≠ i) : (T.set i f).get j = T.get j := by
  rw [BT.get_set, if_neg h]
theorem ev_push {q : Option Value} {y : DictEntry} (hd : d < n) (h28 : 28 ≤ d) (hg : T.get d = some (dO es e)) (hs : es.size < 100000) :
    Ev pw w (cE bd env) (3) (sT os T n t) p (updateDictKeys d (·.push y) q) () (sT os (T.set d (Obj.mapDictKeys (·.push y))) n t) p := by
  refine Ev.load hd hg (alive_dO es e) ?_
  refine Ev.update hd h28 hg (alive_dO es e) ?_
  refine Ev.load hd (get_same hg) (o := dO (es.push y) (e + 1)) rfl ?_
  have hp : (Data.dict (es.push y) (e + 1)).pastItsLine = none := by
    show (if (es.push y).size > sizeLine + 1 then some "dict:memory" else none) = none
    refine if_neg ?_
    rw [Array.size_push]
    have : sizeLine + 1 = 16777217 := rfl
    omega
  show Ev pw w (cE bd env) 0 (sT os (T.set d (Obj.mapDictKeys (·.push y))) n t) p (match (Data.dict (es.push y) (e + 1)).pastItsLine with | some what => Sem.unsupported what | _ => (Sem.pure () : Sem Unit)) () _ p
  rw [hp]
  exact Ev.pure
theorem ev_set {v : Value} (hd : d < n) (h28 : 28 ≤ d) (hg : T.get d = some (dO es e)) (hs : es.size < 100000) (h0 : 0 ≤ x) (h1 : x < 2 ^ 60) (hm : ∀ a ∈ es, a.hash ≠ x) :
    Ev pw w (cE bd env) (10) (sT os T n t) p (dictSet d (.int x tk) v) () (sT os (T.set d (Obj.mapDictKeys (·.push ⟨x, .int x tk, v⟩))) n (t + 1)) p := by
  unfold dictSet
  refine Ev.holding ?_
  refine Ev.bind (ev_hash h0 h1) ?_
  unfold dictSetHashed
  refine Ev.holding ?_
  refine Ev.bind (ev_miss hd hg hm) ?_
  refine Ev.rule ?_
  exact ev_push hd h28 hg hs
theorem ev_put {v : Value} (hd : d < n) (h28 : 28 ≤ d) (hg : T.get d = some (dO es e)) (hs : es.size < 100000) (hm : ∀ a ∈ es, a.hash ≠ x) :
    Ev pw w (cE bd env) (4) (sT os T n t) p (dictPut d x (.int x tk) v) () (sT os (T.set d (Obj.mapDictKeys (·.push ⟨x, .int x tk, v⟩))) n t) p := by
  unfold dictPut
  refine Ev.bind (ev_miss hd hg hm) ?_
  exact ev_push hd h28 hg hs
end
end Mine

end
section
open PySem PySem.W PyProof.Rows
set_option Elab.async false
set_option maxRecDepth 100000
set_option linter.unusedVariables false
namespace Mine
noncomputable abbrev pr (D : Pos) (q : Int × Str) : Sem Value × Sem Value := (PySem.mkInt q.1, (PySem.mkText q.2).bind fun x => (PySem.standAt D).bind fun _ => .pure x)
noncomputable def entsAt3 : Nat → List (Int × Str) → List DictEntry
  | _, [] => []
  | t, (i, x) :: r => ⟨i, .int i t, .str x (t + 1)⟩ :: entsAt3 (t + 3) r
noncomputable def pushAll (d : Nat) : BT → List DictEntry → BT
  | T, [] => T
  | T, y :: r => pushAll d (T.set d (Obj.mapDictKeys (·.push y))) r
theorem pushAll_other {d j : Nat} (h : j ≠ d) : ∀ (l : List DictEntry) (T : BT), (pushAll d T l).get j = T.get j
  | [], T => rfl
  | y :: l, T => by rw [pushAll, pushAll_other h l, get_other h]
theorem pushAll_same {d : Nat} : ∀ (l : List DictEntry) (T : BT) (es : Array DictEntry) (e : Nat), T.get d = some (dO es e) → (pushAll d T l).get d = some (dO (es ++ l.toArray) (e + l.length))
  | [], T, es, e, h => by simpa [pushAll] using h
  | y :: l, T, es, e, h => by
    rw [pushAll, pushAll_same l _ (es.push y) (e + 1) (get_same h)]
    simp only [List.length_cons]
    rw [show e + 1 + l.length = e + (l.length + 1) by omega]
    congr 2
    simp
theorem entsAt3_len : ∀ (t : Nat) (l : List (Int × Str)), (entsAt3 t l).length = l.length
  | t, [] => rfl
  | t, (i, x) :: r => by simp [entsAt3, entsAt3_len]
theorem entsAt3_hash : ∀ (t : Nat) (l : List (Int × Str)) (a : DictEntry), a ∈ entsAt3 t l → ∃ q ∈ l, a.hash = q.1
  | t, [], a, h => by cases h
  | t, (i, x) :: r, a, h => by
    rcases List.mem_cons.mp h with rfl | h
    · exact ⟨_, List.mem_cons_self, rfl⟩
    · obtain ⟨q, hq, e⟩ := entsAt3_hash _ r a h
      exact ⟨q, List.mem_cons_of_mem _ hq, e⟩

noncomputable def subLoop (d : Addr) (pairs : List (Sem Value × Sem Value)) : Sem PUnit := do
  for (k, v) in pairs do
    let kv ← k
    let vv ← holding [kv] v
    holding [kv, vv] (dictSet d kv vv)
noncomputable def subFor (d : Addr) (pairs : List (Sem Value × Sem Value)) (b : PUnit) : Sem PUnit := forIn pairs b fun x _ => match x with
  | (k, v) => do
    let kv ← k
    let vv ← holding [kv] v
    holding [kv, vv] (dictSet d kv vv)
    pure (ForInStep.yield PUnit.unit)
theorem subLoop_eq (d : Addr) (l : List (Sem Value × Sem Value)) : subLoop d l = (subFor d l PUnit.unit).bind fun _ => .pure () := rfl
theorem subFor_cons (d : Addr) (k v : Sem Value) (r : List (Sem Value × Sem Value)) : subFor d ((k, v) :: r) PUnit.unit =
    (k.bind fun kv => (holding [kv] v).bind fun vv => (holding [kv, vv] (dictSet d kv vv)).bind fun _ => .pure (ForInStep.yield PUnit.unit)).bind fun s => match s with | .done b => .pure b | .yield b => subFor d r b := by
  unfold subFor
  rw [List.forIn_cons]
  kernel_rfl
section
variable {pw : Program} {w : World} {os : OsState} {bd : List Stmt} {env : Env}
theorem ev_pr1 {T : BT} {n t : Nat} {p : Pos} {i : Int} : Ev pw w (cE bd env) (1) (sT os T n t) p (PySem.mkInt i) (.int i t) (sT os T n (t + 1)) p :=
  Ev.fresh Ev.pure
theorem ev_pr2 {T : BT} {n t : Nat} {p D : Pos} {x : Str} : Ev pw w (cE bd env) (2) (sT os T n t) p ((PySem.mkText x).bind fun x => (PySem.standAt D).bind fun _ => .pure x) (Value.str x t) (sT os T n (t + 1)) D :=
  Ev.fresh (Ev.stand Ev.pure)
theorem ev_subFor {D : Pos} {d n : Nat} (hd : d < n) (h28 : 28 ≤ d) : ∀ (c : List (Int × Str)) (T : BT) (t : Nat) (fs : Array DictEntry) (e : Nat), T.get d = some (dO fs e) → fs.size + c.length < 100000 →
    (∀ q ∈ c, 0 ≤ q.1 ∧ q.1 < 2 ^ 60) → (∀ a ∈ fs, ∀ q ∈ c, a.hash ≠ q.1) → c.Pairwise (fun a b => a.1 < b.1) →
    Ev pw w (cE bd env) (13 * c.length) (sT os T n t) D (subFor d (c.map (pr D)) PUnit.unit) PUnit.unit (sT os (pushAll d T (entsAt3 t c)) n (t + 3 * c.length)) D
  | [], T, t, fs, e, hg, hs, hb, hm, hp => Ev.pure
  | (i, x) :: r, T, t, fs, e, hg, hs, hb, hm, hp => by
    have hb0 := hb (i, x) List.mem_cons_self
    rw [List.map_cons, subFor_cons]
    simp only [List.length_cons] at hs ⊢
    refine Ev.le (B := 13 * r.length + 13) (Ev.bind (s' := sT os (T.set d (Obj.mapDictKeys (·.push ⟨i, .int i t, .str x (t + 1)⟩))) n (t + 3)) (p' := D) (a := ForInStep.yield PUnit.unit) ?_ ?_) (by omega)
    · refine Ev.bind ev_pr1 ?_
      refine Ev.bind (Ev.holding ev_pr2) ?_
      refine Ev.bind (Ev.holding (ev_set hd h28 hg (by omega) hb0.1 hb0.2 (fun a ha => hm a ha _ List.mem_cons_self))) ?_
      exact Ev.pure
    · rw [show t + 3 * (r.length + 1) = t + 3 + 3 * r.length by omega]
      exact ev_subFor hd h28 r (T.set d (Obj.mapDictKeys (·.push ⟨i, .int i t, .str x (t + 1)⟩))) (t + 3) (fs.push ⟨i, .int i t, .str x (t + 1)⟩) (e + 1) (get_same hg) (by rw [Array.size_push]; omega)
        (fun q hq => hb q (List.mem_cons_of_mem _ hq)) (fun a ha q hq => by
          rcases Array.mem_push.mp ha with ha | rfl
          · exact hm a ha q (List.mem_cons_of_mem _ hq)
          · have := (List.pairwise_cons.mp hp).1 q hq
            exact fun e => by have e : i = q.1 := e; omega) (List.pairwise_cons.mp hp).2
theorem subDict_long {pairs : List (Sem Value × Sem Value)} (h : ¬ pairs.length ≤ 15) : subDict pairs =
    (PySem.alloc (dO #[] 0)).bind fun d => (holding [.ref d] ((PySem.rule "dict.display.long").bind fun _ => subLoop d pairs)).bind fun _ => .pure d := by
  unfold subDict
  simp only [if_neg h]
  rfl
theorem ins_get {T : BT} {n : Nat} {o : Obj} (h : ((T.ins n o).get n).isSome = true) : (T.ins n o).get n = some o := by
  rw [BT.get_ins o T n h, if_pos rfl]
theorem ins_other {T : BT} {n j : Nat} {o : Obj} (h : ((T.ins n o).get n).isSome = true) (hj : j ≠ n) : (T.ins n o).get j = T.get j := by
  rw [BT.get_ins o T n h, if_neg hj]
theorem ev_subDict {D : Pos} {n : Nat} (h28 : 28 ≤ n) (c : List (Int × Str)) (T : BT) (t : Nat) (hT : ((T.ins n (dO #[] 0)).get n).isSome = true) (hl : ¬ c.length ≤ 15) (hs : c.length < 100000)
    (hb : ∀ q ∈ c, 0 ≤ q.1 ∧ q.1 < 2 ^ 60) (hp : c.Pairwise (fun a b => a.1 < b.1)) :
    Ev pw w (cE bd env) (13 * c.length + 2) (sT os T n t) D (subDict (c.map (pr D))) n (sT os (pushAll n (T.ins n (dO #[] 0)) (entsAt3 t c)) (n + 1) (t + 3 * c.length)) D := by
  rw [subDict_long (by rw [List.length_map]; exact hl)]
  simp only [subLoop_eq]
  refine Ev.bind (B := 1) (B' := 13 * c.length + 1) (Ev.alloc hT Ev.pure) ?_
  have h1 := ev_subFor (pw := pw) (w := w) (os := os) (bd := bd) (env := env) (D := D) (d := n) (n := n + 1) (by omega) h28 c _ t #[] 0 (ins_get hT) (by simpa using hs) hb (fun a ha => by simp at ha) hp
  refine Ev.le (B := 0 + (13 * c.length + 1)) ?_ (by omega)
  refine Ev.bind (a := ()) (B := 13 * c.length + 1) (B' := 0) (Ev.holding (Ev.rule (Ev.le (Ev.bind Ev.pure (Ev.bind (a := PUnit.unit) h1 (Ev.pure (a := ())))) (by omega)))) Ev.pure

-- mergeMapping
theorem ev_typeOf {T : BT} {n t a : Nat} {p : Pos} {es : Array DictEntry} {e : Nat} (ha : a < n) (hg : T.get a = some (dO es e)) : Ev pw w (cE bd env) (1) (sT os T n t) p (typeOf (.ref a)) (.type "dict") (sT os T n t) p :=
  Ev.load ha hg (alive_dO es e) Ev.pure
theorem ev_plain {T : BT} {n t a : Nat} {p : Pos} {es : Array DictEntry} {e : Nat} (ha : a < n) (hg : T.get a = some (dO es e)) : Ev pw w (cE bd env) (1) (sT os T n t) p (isInstance (.ref a) (.type "dict")) true (sT os T n t) p := by
  unfold isInstance
  refine Ev.bind (ev_typeOf ha hg) ?_
  rw [show isSubtype (.type "dict") (.type "dict") = .pure true from by kernel_rfl]
  exact Ev.pure
theorem ev_iter {T : BT} {n t a : Nat} {p : Pos} {es : Array DictEntry} {e : Nat} (ha : a < n) (hg : T.get a = some (dO es e)) : Ev pw w (cE bd env) (1) (sT os T n t) p (specialOf (.ref a) "__iter__") (some (.builtin "dict.__iter__")) (sT os T n t) p := by
  unfold specialOf
  refine Ev.bind (ev_typeOf ha hg) ?_
  rw [show typeLookup (.type "dict") "__iter__" = .pure (some (.builtin "dict.__iter__")) from by kernel_rfl]
  exact Ev.pure
noncomputable def mFor (d a : Addr) (epoch : Nat) (is : List Nat) (b : PUnit) : Sem PUnit := forIn is b fun i _ => do
      let some e := (← dictEntries a)[i]? | unsupported "dict.changed-during-merge"
      holding [e.key, e.val] do
        if false then
          if (← dictFind d e.key e.hash).isSome then rule "dict.merge.duplicate-key"; raiseNew (← newExc (.type "KeyError") [e.key])
        dictPut d e.hash e.key e.val
      if (← dictEpoch a) != epoch then unsupported "dict.changed-during-merge"
      pure (ForInStep.yield PUnit.unit)
theorem ev_mFor {D : Pos} {d a n t : Nat} (hd : d < n) (h28 : 28 ≤ d) (ha : a < n) (had : a ≠ d) (fs : Array DictEntry) (ep : Nat) : ∀ (ys xs : List DictEntry) (T : BT) (es : Array DictEntry) (e : Nat),
    fs = (xs ++ ys).toArray → T.get d = some (dO es e) → T.get a = some (dO fs ep) → es.size + ys.length < 100000 → (∀ y ∈ ys, ∃ x k, y.key = .int x k ∧ y.hash = x) →
    (∀ z ∈ es, ∀ y ∈ ys, z.hash ≠ y.hash) → ys.Pairwise (fun p q => p.hash ≠ q.hash) →
    Ev pw w (cE bd env) (6 * ys.length) (sT os T n t) D (mFor d a ep (List.range' xs.length ys.length) PUnit.unit) PUnit.unit (sT os (pushAll d T ys) n t) D
  | [], xs, T, es, e, hf, hg, hga, hs, hk, hm, hp => Ev.pure
  | y :: ys, xs, T, es, e, hf, hg, hga, hs, hk, hm, hp => by
    have hi : fs[xs.length]? = some y := by rw [hf]; simp
    obtain ⟨x, k, h1, h2⟩ := hk y List.mem_cons_self
    have hy : y = ⟨x, .int x k, y.val⟩ := by obtain ⟨a, b, c⟩ := y; simp only at h1 h2 ⊢; rw [h1, h2]
    simp only [List.length_cons] at hs ⊢
    rw [List.range'_succ]
    unfold mFor
    rw [List.forIn_cons]
    refine Ev.le (B := 6 * ys.length + 6) (Ev.bind (s' := sT os (T.set d (Obj.mapDictKeys (·.push y))) n t) (p' := D) (a := ForInStep.yield PUnit.unit) ?_ ?_) (by omega)
    · refine Ev.bind (ev_entries ha hga) ?_
      simp only [hi]
      refine Ev.bind (B := 4) (B' := 1) (Ev.holding (a := ()) (s' := sT os (T.set d (Obj.mapDictKeys (·.push y))) n t) (p' := D) ?_) ?_
      · have := ev_put (pw := pw) (w := w) (os := os) (bd := bd) (env := env) (t := t) (p := D) (x := x) (tk := k) (v := y.val) hd h28 hg (by omega) (fun z hz => by have := hm z hz y List.mem_cons_self; rw [h2] at this; exact this)
        rw [← h1, ← h2] at this
        exact this
      · refine Ev.bind (ev_epoch ha (by rw [get_other had]; exact hga)) ?_
        have : (ep != ep) = false := by simp
        simp only [this]
        exact Ev.pure
    · rw [show xs.length + 1 = (xs ++ [y]).length by simp]
      exact ev_mFor hd h28 ha had fs ep ys (xs ++ [y]) (T.set d (Obj.mapDictKeys (·.push y))) (es.push y) (e + 1) (by rw [hf]; simp) (get_same hg) (by rw [get_other had]; exact hga) (by rw [Array.size_push]; omega)
        (fun z hz => hk z (List.mem_cons_of_mem _ hz))
        (fun z hz q hq => by
          rcases Array.mem_push.mp hz with hz | rfl
          · exact hm z hz q (List.mem_cons_of_mem _ hq)
          · exact (List.pairwise_cons.mp hp).1 q hq) (List.pairwise_cons.mp hp).2
theorem ev_merge {D : Pos} {d a n t : Nat} (hd : d < n) (h28 : 28 ≤ d) (ha : a < n) (ha28 : 28 ≤ a) (had : a ≠ d) (ys : List DictEntry) (ep : Nat) (T : BT) (es : Array DictEntry) (e : Nat)
    (hne : es.isEmpty = false) (hg : T.get d = some (dO es e)) (hga : T.get a = some (dO ys.toArray ep)) (hs : es.size + ys.length < 100000) (hk : ∀ y ∈ ys, ∃ x k, y.key = .int x k ∧ y.hash = x)
    (hm : ∀ z ∈ es, ∀ y ∈ ys, z.hash ≠ y.hash) (hp : ys.Pairwise (fun p q => p.hash ≠ q.hash)) :
    Ev pw w (cE bd env) (6 * ys.length + 5) (sT os T n t) D (mergeMapping d (.ref a) false) () (sT os (pushAll d T ys) n t) D := by
  have hsm : (a == sysModules) = false := by simp [sysModules]; omega
  unfold mergeMapping
  refine Ev.bind (B := 1) (B' := 6 * ys.length + 4) (ev_plain ha hga) ?_
  refine Ev.bind (B := 1) (B' := 6 * ys.length + 3) (ev_iter ha hga) ?_
  have hb : ((some (Value.builtin "dict.__iter__") : Option Value) == some (.builtin "dict.__iter__")) = true := by kernel_rfl
  refine Ev.bind (B := 0) (B' := 6 * ys.length + 3) Ev.pure ?_
  simp only [hb, hsm]
  refine Ev.bind (B := 1) (B' := 6 * ys.length + 2) (ev_entries hd hg) ?_
  simp only [hne]
  refine Ev.bind (B := 1) (B' := 6 * ys.length + 1) (ev_entries ha hga) ?_
  refine Ev.bind (B := 1) (B' := 6 * ys.length) (ev_epoch ha hga) ?_
  refine Ev.le (B := 0 + 6 * ys.length) (Ev.bind (a := PUnit.unit) (s' := sT os (pushAll d T ys) n t) (p' := D) ?_ Ev.pure) (by omega)
  have := ev_mFor (pw := pw) (w := w) (os := os) (bd := bd) (env := env) (D := D) (t := t) hd h28 ha had ys.toArray ep ys [] T es e rfl hg hga hs hk hm hp
  rw [List.length_nil] at this
  rw [List.range_eq_range']
  exact this
end
end Mine

end
section
open PySem PySem.W PyProof.Rows
set_option Elab.async false
set_option maxRecDepth 100000
set_option linter.unusedVariables false
namespace Mine
noncomputable def entsAt2 : Nat → List (Int × Str) → List DictEntry
  | _, [] => []
  | t, (i, x) :: r => ⟨i, .int i t, .str x (t + 1)⟩ :: entsAt2 (t + 2) r
noncomputable def prsAt2 : Nat → List (Int × Str) → List (Value × Value)
  | _, [] => []
  | t, (i, x) :: r => (.int i t, .str x (t + 1)) :: prsAt2 (t + 2) r
noncomputable def Full (T : BT) (n : Nat) : Prop := ∀ m < n, (T.get m).isSome = true
theorem Full.room {o : Obj} : ∀ {T : BT} {n : Nat}, Full T n → ((T.ins n o).get n).isSome = true
  | .nil, n, h => by
    have : n = 0 := by
      cases n with
      | zero => rfl
      | succ n => have := h 0 (by omega); simp [BT.get] at this
    subst this
    rfl
  | .node v l r, n, h => by
    rw [BT.ins_node]
    by_cases h0 : n = 0
    · subst h0; simp [BT.get_node]
    · rw [if_neg h0]
      by_cases h1 : n % 2 = 1
      · rw [if_pos h1, BT.get_node, if_neg h0, if_pos h1]
        refine Full.room (T := l) (n := n / 2) (fun m hm => ?_)
        have := h (2 * m + 1) (by omega)
        rw [BT.get_node, if_neg (by omega), if_pos (by omega), show (2 * m + 1) / 2 = m by omega] at this
        exact this
      · rw [if_neg h1, BT.get_node, if_neg h0, if_neg h1]
        refine Full.room (T := r) (n := n / 2 - 1) (fun m hm => ?_)
        have := h (2 * m + 2) (by omega)
        rw [BT.get_node, if_neg (by omega), if_neg (by omega), show (2 * m + 2) / 2 - 1 = m by omega] at this
        exact this
theorem Full.ins {T : BT} {n : Nat} {o : Obj} (h : Full T n) : Full (T.ins n o) (n + 1) := fun m hm => by
  rw [BT.get_ins o T n h.room]
  by_cases e : m = n
  · rw [if_pos e]; rfl
  · rw [if_neg e]; exact h m (by omega)
theorem Full.set {T : BT} {n d : Nat} {f : Obj → Obj} (h : Full T n) : Full (T.set d f) n := fun m hm => by
  rw [BT.get_set]
  by_cases e : m = d
  · rw [if_pos e, Option.isSome_map, ← e]; exact h m hm
  · rw [if_neg e]; exact h m hm
theorem Full.pushAll {n d : Nat} : ∀ (l : List DictEntry) {T : BT}, Full T n → Full (pushAll d T l) n
  | [], T, h => h
  | y :: l, T, h => by rw [Mine.pushAll]; exact Full.pushAll l h.set

section
variable {pw : Program} {w : World} {os : OsState} {bd : List Stmt} {env : Env}
theorem ev_evalPairs {D : Pos} {T : BT} {n : Nat} : ∀ (c : List (Int × Str)) (t : Nat),
    Ev pw w (cE bd env) (3 * c.length) (sT os T n t) D (evalPairs (c.map (pr D))) (prsAt2 t c) (sT os T n (t + 2 * c.length)) D
  | [], t => Ev.pure
  | (i, x) :: r, t => by
    rw [List.map_cons]
    unfold evalPairs
    refine Ev.le (B := 3 * r.length + 3) ?_ (by simp only [List.length_cons]; omega)
    refine Ev.bind (B := 1) (B' := 3 * r.length + 2) ev_pr1 ?_
    refine Ev.bind (B := 2) (B' := 3 * r.length) (Ev.holding ev_pr2) ?_
    refine Ev.le (B := 0 + 3 * r.length) ?_ (by omega)
    refine Ev.bind (Ev.holding (ev_evalPairs r (t + 2))) ?_
    rw [show t + 2 + 2 * r.length = t + 2 * (r.length + 1) by omega]
    exact Ev.pure
noncomputable def shFor (d : Addr) (l : List (Value × Value)) (b : PUnit) : Sem PUnit := forIn l b fun x _ => match x with
  | (k, v) => do
    dictSet d k v
    pure (ForInStep.yield PUnit.unit)
theorem ev_shFor {D : Pos} {d n : Nat} (hd : d < n) (h28 : 28 ≤ d) : ∀ (c : List (Int × Str)) (T : BT) (t u : Nat) (fs : Array DictEntry) (e : Nat), T.get d = some (dO fs e) → fs.size + c.length < 100000 →
    (∀ q ∈ c, 0 ≤ q.1 ∧ q.1 < 2 ^ 60) → (∀ a ∈ fs, ∀ q ∈ c, a.hash ≠ q.1) → c.Pairwise (fun a b => a.1 < b.1) →
    Ev pw w (cE bd env) (10 * c.length) (sT os T n u) D (shFor d (prsAt2 t c) PUnit.unit) PUnit.unit (sT os (pushAll d T (entsAt2 t c)) n (u + c.length)) D
  | [], T, t, u, fs, e, hg, hs, hb, hm, hp => Ev.pure
  | (i, x) :: r, T, t, u, fs, e, hg, hs, hb, hm, hp => by
    have hb0 := hb (i, x) List.mem_cons_self
    rw [prsAt2]
    unfold shFor
    rw [List.forIn_cons]
    simp only [List.length_cons] at hs ⊢
    refine Ev.le (B := 10 * r.length + 10) (Ev.bind (s' := sT os (T.set d (Obj.mapDictKeys (·.push ⟨i, .int i t, .str x (t + 1)⟩))) n (u + 1)) (p' := D) (a := ForInStep.yield PUnit.unit) ?_ ?_) (by omega)
    · refine Ev.bind (ev_set hd h28 hg (by omega) hb0.1 hb0.2 (fun a ha => hm a ha _ List.mem_cons_self)) ?_
      exact Ev.pure
    · rw [show u + (r.length + 1) = u + 1 + r.length by omega]
      exact ev_shFor hd h28 r (T.set d (Obj.mapDictKeys (·.push ⟨i, .int i t, .str x (t + 1)⟩))) (t + 2) (u + 1) (fs.push ⟨i, .int i t, .str x (t + 1)⟩) (e + 1) (get_same hg) (by rw [Array.size_push]; omega)
        (fun q hq => hb q (List.mem_cons_of_mem _ hq)) (fun a ha q hq => by
          rcases Array.mem_push.mp ha with ha | rfl
          · exact hm a ha q (List.mem_cons_of_mem _ hq)
          · have := (List.pairwise_cons.mp hp).1 q hq
            exact fun e => by have e : i = q.1 := e; omega) (List.pairwise_cons.mp hp).2
theorem ev_subShort {D : Pos} {n : Nat} (h28 : 28 ≤ n) (c : List (Int × Str)) (T : BT) (t : Nat) (hT : ((T.ins n (dO #[] 0)).get n).isSome = true) (hl : c.length ≤ 15)
    (hb : ∀ q ∈ c, 0 ≤ q.1 ∧ q.1 < 2 ^ 60) (hp : c.Pairwise (fun a b => a.1 < b.1)) :
    Ev pw w (cE bd env) (13 * c.length + 1) (sT os T n t) D (subDict (c.map (pr D))) n (sT os (pushAll n (T.ins n (dO #[] 0)) (entsAt2 t c)) (n + 1) (t + 3 * c.length)) D := by
  unfold subDict
  have hl' : (c.map (pr D)).length ≤ 15 := by rw [List.length_map]; exact hl
  simp only [if_pos hl']
  refine Ev.bind (B := 1) (B' := 13 * c.length) (Ev.alloc hT Ev.pure) ?_
  refine Ev.le (B := 0 + 13 * c.length) (Ev.bind (a := ()) (Ev.holding ?_) Ev.pure) (by omega)
  refine Ev.le (B := 10 * c.length + 3 * c.length) (Ev.bind (ev_evalPairs c t) (Ev.holding ?_)) (by omega)
  have := ev_shFor (pw := pw) (w := w) (os := os) (bd := bd) (env := env) (D := D) (d := n) (n := n + 1) (by omega) h28 c (T.ins n (dO #[] 0)) t (t + 2 * c.length) #[] 0 (ins_get hT) (by simp; omega) hb (fun a ha => by simp at ha) hp
  rw [show t + 2 * c.length + c.length = t + 3 * c.length by omega] at this
  exact Ev.le (Ev.bind this Ev.pure) (by omega)
end
end Mine

end
section
open PySem PySem.W PyProof.Rows
set_option Elab.async false
set_option maxRecDepth 100000
set_option linter.unusedVariables false
namespace Mine
noncomputable abbrev it (D : Pos) (q : Int × Str) : Option (Sem Value) × Sem Value := (some (pr D q).1, (pr D q).2)
noncomputable abbrev Run := List (Sem Value × Sem Value)
noncomputable def flushD (run : Run) (main : Option Addr) : Sem (Option Addr) := do
    if run.isEmpty then return main
    match main with
    | none => return some (← subDict run)
    | some d =>
      let sub ← holding [.ref d] (subDict run)
      (holding [.ref d, .ref sub] (mergeMapping d (.ref sub) false)).onRaise fun x => do let _ ← holding [.ref d, x] (runValue (.builtin "proto.let_go" {}))
      return some d
noncomputable abbrev DSt := Option Addr × Run
section
variable (f : Option (Sem Value) × Sem Value → DSt → Sem (ForInStep DSt))
noncomputable def BodyIs : Prop := ∀ k v m r, f (some k, v) ⟨m, r⟩ = if ((r ++ [(k, v)]).length == 17) = true then (flushD (r ++ [(k, v)]) m).bind fun m' => .pure (.yield ⟨m', []⟩) else .pure (.yield ⟨m, r ++ [(k, v)]⟩)
variable {f}
theorem pend (hf : BodyIs f) {D : Pos} {m : Option Addr} {rest : List (Option (Sem Value) × Sem Value)} : ∀ (c : List (Int × Str)) (r : Run), c ≠ [] → r.length + c.length = 17 →
    forIn (c.map (it D) ++ rest) (⟨m, r⟩ : DSt) f = (flushD (r ++ c.map (pr D)) m).bind fun m' => forIn rest (⟨m', []⟩ : DSt) f
  | [], r, h, hl => absurd rfl h
  | [q], r, h, hl => by
    simp only [List.length_singleton] at hl
    have : (((r ++ [pr D q]).length == 17) = true) := by simp; omega
    rw [List.map_singleton, List.map_singleton, List.singleton_append, List.forIn_cons, hf, if_pos this]
    show ((flushD (r ++ [pr D q]) m).bind fun m' => Sem.pure (ForInStep.yield (⟨m', []⟩ : DSt))).bind _ = _
    rw [Sem.bind_eq_wrap, Sem.bind_eq_wrap, Sem.wrap_wrap, Sem.bind_eq_wrap]
    rfl
  | q :: q' :: c, r, h, hl => by
    simp only [List.length_cons] at hl
    have : ¬ (((r ++ [pr D q]).length == 17) = true) := by simp; omega
    rw [List.map_cons, List.map_cons, List.cons_append, List.forIn_cons, hf, if_neg this]
    show forIn ((q' :: c).map (it D) ++ rest) (⟨m, r ++ [pr D q]⟩ : DSt) f = _
    rw [pend hf (q' :: c) (r ++ [pr D q]) (by simp) (by simp; omega)]
    rw [List.append_assoc]
    rfl
theorem pendRest (hf : BodyIs f) {D : Pos} {m : Option Addr} : ∀ (c : List (Int × Str)) (r : Run), r.length + c.length < 17 →
    forIn (c.map (it D)) (⟨m, r⟩ : DSt) f = .pure ⟨m, r ++ c.map (pr D)⟩
  | [], r, hl => by simp; rfl
  | q :: c, r, hl => by
    simp only [List.length_cons] at hl
    have : ¬ (((r ++ [pr D q]).length == 17) = true) := by simp; omega
    rw [List.map_cons, List.forIn_cons, hf, if_neg this]
    show forIn (c.map (it D)) (⟨m, r ++ [pr D q]⟩ : DSt) f = _
    rw [pendRest hf c (r ++ [pr D q]) (by simp; omega), List.append_assoc]
    rfl
end
-- the tree, chunk by chunk
noncomputable def chunkT (d : Nat) (T : BT) (n t : Nat) (c : List (Int × Str)) : BT := pushAll d (pushAll n (T.ins n (dO #[] 0)) (entsAt3 t c)) (entsAt3 t c)
noncomputable def chunksT (d : Nat) : BT → Nat → Nat → List (List (Int × Str)) → BT
  | T, _, _, [] => T
  | T, n, t, c :: cs => chunksT d (chunkT d T n t c) (n + 1) (t + 51) cs
theorem asc_hash {c : List (Int × Str)} (h : c.Pairwise (fun a b => a.1 < b.1)) : ∀ t, (entsAt3 t c).Pairwise (fun p q => p.hash ≠ q.hash) := by
  induction c with
  | nil => intro t; exact .nil
  | cons q c ih =>
    intro t
    obtain ⟨i, x⟩ := q
    rw [List.pairwise_cons] at h
    rw [entsAt3, List.pairwise_cons]
    refine ⟨fun a ha => ?_, ih h.2 _⟩
    obtain ⟨q, hq, e⟩ := entsAt3_hash _ _ _ ha
    have := h.1 q hq
    rw [e]
    exact fun e => by have e : i = q.1 := e; have : i < q.1 := this; omega
theorem asc_hash2 {c : List (Int × Str)} (h : c.Pairwise (fun a b => a.1 < b.1)) : ∀ t, (entsAt2 t c).Pairwise (fun p q => p.hash ≠ q.hash) ∧ ∀ a ∈ entsAt2 t c, ∃ q ∈ c, a.hash = q.1 := by
  induction c with
  | nil => intro t; exact ⟨.nil, fun a h => by cases h⟩
  | cons q c ih =>
    intro t
    obtain ⟨i, x⟩ := q
    rw [List.pairwise_cons] at h
    have ih := ih h.2 (t + 2)
    rw [entsAt2, List.pairwise_cons]
    refine ⟨⟨fun a ha => ?_, ih.1⟩, fun a ha => ?_⟩
    · obtain ⟨q, hq, e⟩ := ih.2 _ ha
      have := h.1 q hq
      rw [e]
      exact fun e => by have e : i = q.1 := e; have : i < q.1 := this; omega
    · rcases List.mem_cons.mp ha with rfl | ha
      · exact ⟨_, List.mem_cons_self, rfl⟩
      · obtain ⟨q, hq, e⟩ := ih.2 _ ha
        exact ⟨q, List.mem_cons_of_mem _ hq, e⟩
theorem entsAt3_key : ∀ (t : Nat) (l : List (Int × Str)) (a : DictEntry), a ∈ entsAt3 t l → ∃ x k, a.key = .int x k ∧ a.hash = x
  | t, [], a, h => by cases h
  | t, (i, x) :: r, a, h => by
    rcases List.mem_cons.mp h with rfl | h
    · exact ⟨_, _, rfl, rfl⟩
    · exact entsAt3_key _ r a h
theorem entsAt2_key : ∀ (t : Nat) (l : List (Int × Str)) (a : DictEntry), a ∈ entsAt2 t l → ∃ x k, a.key = .int x k ∧ a.hash = x
  | t, [], a, h => by cases h
  | t, (i, x) :: r, a, h => by
    rcases List.mem_cons.mp h with rfl | h
    · exact ⟨_, _, rfl, rfl⟩
    · exact entsAt2_key _ r a h
theorem entsAt2_len : ∀ (t : Nat) (l : List (Int × Str)), (entsAt2 t l).length = l.length
  | t, [] => rfl
  | t, (i, x) :: r => by simp [entsAt2, entsAt2_len]
section
variable {pw : Program} {w : World} {os : OsState} {bd : List Stmt} {env : Env}
theorem ev_flushMain {D : Pos} {d n t : Nat} {T : BT} {es : Array DictEntry} {e : Nat} {run : Run} {ys : List DictEntry} {t' : Nat} (hr : run.isEmpty = false) (hd : d < n) (h28 : 28 ≤ d) (hF : Full T n)
    (hg : T.get d = some (dO es e)) (hne : es.isEmpty = false) (hs : es.size + ys.length < 100000) (hk : ∀ y ∈ ys, ∃ x k, y.key = .int x k ∧ y.hash = x)
    (hm : ∀ z ∈ es, ∀ y ∈ ys, z.hash ≠ y.hash) (hp : ys.Pairwise (fun p q => p.hash ≠ q.hash))
    {B : Nat} (hsub : Ev pw w (cE bd env) B (sT os T n t) D (subDict run) n (sT os (pushAll n (T.ins n (dO #[] 0)) ys) (n + 1) t') D) :
    Ev pw w (cE bd env) (6 * ys.length + 5 + B) (sT os T n t) D (flushD run (some d)) (some d) (sT os (pushAll d (pushAll n (T.ins n (dO #[] 0)) ys) ys) (n + 1) t') D := by
  unfold flushD
  simp only [hr]
  refine Ev.bind (B := B) (B' := 6 * ys.length + 5) (Ev.holding hsub) ?_
  have g1 : (pushAll n (T.ins n (dO #[] 0)) ys).get d = some (dO es e) := by rw [pushAll_other (by omega), ins_other hF.room (by omega)]; exact hg
  have g2 : (pushAll n (T.ins n (dO #[] 0)) ys).get n = some (dO ys.toArray (0 + ys.length)) := by
    have := pushAll_same ys (T.ins n (dO #[] 0)) #[] 0 (ins_get hF.room)
    simpa using this
  refine Ev.le (B := 0 + (6 * ys.length + 5)) ?_ (by omega)
  refine Ev.bind (Ev.onRaise (Ev.holding (ev_merge (by omega) h28 (by omega) (by omega) (by omega) ys _ _ es e hne g1 g2 hs hk hm hp))) ?_
  exact Ev.pure
variable {f : Option (Sem Value) × Sem Value → DSt → Sem (ForInStep DSt)}
theorem ev_chunks (hf : BodyIs f) {D : Pos} {d : Nat} (h28 : 28 ≤ d) {rest : List (Option (Sem Value) × Sem Value)} {R : DSt} {s' : SharedT} {p' : Pos} {B : Nat} : ∀ (cs : List (List (Int × Str))) (T : BT) (n t : Nat) (es : List DictEntry) (e : Nat),
    d < n → Full T n → T.get d = some (dO es.toArray e) → es ≠ [] → es.length + 17 * cs.length < 100000 → (∀ c ∈ cs, c.length = 17) → (∀ c ∈ cs, ∀ q ∈ c, 0 ≤ q.1 ∧ q.1 < 2 ^ 60) →
    (∀ c ∈ cs, c.Pairwise (fun a b => a.1 < b.1)) → (∀ z ∈ es, ∀ c ∈ cs, ∀ q ∈ c, z.hash < q.1) → cs.Pairwise (fun a b => ∀ p ∈ a, ∀ q ∈ b, p.1 < q.1) →
    (∀ (es' : List DictEntry) (e' : Nat), (chunksT d T n t cs).get d = some (dO es'.toArray e') → es' ≠ [] → Full (chunksT d T n t cs) (n + cs.length) → es'.length = es.length + 17 * cs.length →
      (∀ z ∈ es', z ∈ es ∨ ∃ c ∈ cs, ∃ q ∈ c, z.hash = q.1) →
      Ev pw w (cE bd env) B (sT os (chunksT d T n t cs) (n + cs.length) (t + 51 * cs.length)) D (forIn rest (⟨some d, []⟩ : DSt) f) R s' p') →
    Ev pw w (cE bd env) (330 * cs.length + B) (sT os T n t) D (forIn (cs.flatMap (fun c => c.map (it D)) ++ rest) (⟨some d, []⟩ : DSt) f) R s' p'
  | [], T, n, t, es, e, hd, hF, hg, hne, hs, hl, hb, hp, hm, hcc, h => Ev.le (h es e hg hne hF (by simp) (fun z hz => .inl hz)) (by omega)
  | c :: cs, T, n, t, es, e, hd, hF, hg, hne, hs, hl, hb, hp, hm, hcc, h => by
    have l17 := hl c List.mem_cons_self
    have hpc := hp c List.mem_cons_self
    simp only [List.length_cons] at hs
    rw [List.flatMap_cons, List.append_assoc, pend hf c [] (by intro q; rw [q] at l17; cases l17) (by simpa using l17), List.nil_append]
    have hrun : (c.map (pr D)).isEmpty = false := by
      cases c with
      | nil => cases l17
      | cons => rfl
    have hsub := ev_subDict (pw := pw) (w := w) (os := os) (bd := bd) (env := env) (D := D) (n := n) (by omega) c T t hF.room (by omega) (by omega) (hb c List.mem_cons_self) hpc
    have hmem : ∀ a ∈ entsAt3 t c, ∃ q ∈ c, a.hash = q.1 := fun a ha => entsAt3_hash _ _ _ ha
    refine Ev.le (B := (330 * cs.length + B) + (6 * (entsAt3 t c).length + 5 + (13 * c.length + 2))) ?_ (by rw [entsAt3_len, l17, List.length_cons]; omega)
    refine Ev.bind (ev_flushMain hrun hd h28 hF hg (by cases es with | nil => exact absurd rfl hne | cons => rfl) (by rw [entsAt3_len]; simp; omega) (entsAt3_key t c)
      (fun z hz y hy => by
        obtain ⟨q, hq, e⟩ := hmem y hy
        have := hm z (by simpa using hz) c List.mem_cons_self q hq
        rw [e]; omega) (asc_hash hpc t) hsub) ?_
    have g1 : (pushAll n (T.ins n (dO #[] 0)) (entsAt3 t c)).get d = some (dO es.toArray e) := by rw [pushAll_other (by omega), ins_other hF.room (by omega)]; exact hg
    have g2 := pushAll_same (entsAt3 t c) _ _ _ g1
    rw [List.append_toArray] at g2
    rw [l17]
    refine ev_chunks hf h28 cs (chunkT d T n t c) (n + 1) (t + 51) (es ++ entsAt3 t c) _ (by omega) ((hF.ins.pushAll _).pushAll _) g2 (by simp [hne]) (by rw [List.length_append, entsAt3_len]; omega)
      (fun a ha => hl a (List.mem_cons_of_mem _ ha)) (fun a ha => hb a (List.mem_cons_of_mem _ ha)) (fun a ha => hp a (List.mem_cons_of_mem _ ha))
      (fun z hz a ha q hq => by
        rcases List.mem_append.mp hz with hz | hz
        · exact hm z hz a (List.mem_cons_of_mem _ ha) q hq
        · obtain ⟨q', hq', e⟩ := hmem z hz
          rw [e]
          exact (List.pairwise_cons.mp hcc).1 a ha q' hq' q hq) (List.pairwise_cons.mp hcc).2
      (fun es' e' k1 k2 k3 k4 k5 => ?_)
    have := h es' e' k1 k2 (by rw [List.length_cons, show n + (cs.length + 1) = n + 1 + cs.length by omega]; exact k3)
      (by rw [k4, List.length_append, entsAt3_len, List.length_cons]; omega)
      (fun z hz => by
        rcases k5 z hz with hz | ⟨a, ha, q, hq, e⟩
        · rcases List.mem_append.mp hz with hz | hz
          · exact .inl hz
          · obtain ⟨q', hq', e⟩ := hmem z hz
            exact .inr ⟨c, List.mem_cons_self, q', hq', e⟩
        · exact .inr ⟨a, List.mem_cons_of_mem _ ha, q, hq, e⟩)
    rw [List.length_cons, show n + (cs.length + 1) = n + 1 + cs.length by omega, show t + 51 * (cs.length + 1) = t + 51 + 51 * cs.length by omega] at this
    exact this
end
end Mine

end
section
open PySem PySem.W PyProof.Rows
set_option Elab.async false
set_option maxRecDepth 100000
set_option linter.unusedVariables false
namespace Mine
theorem chunks_facts {d : Nat} : ∀ (cs : List (List (Int × Str))) (T : BT) (n t : Nat) (es : List DictEntry) (e : Nat), d < n → Full T n → T.get d = some (dO es.toArray e) → es ≠ [] → (∀ c ∈ cs, c.length = 17) →
    ∃ (es' : List DictEntry) (e' : Nat), (chunksT d T n t cs).get d = some (dO es'.toArray e') ∧ es' ≠ [] ∧ Full (chunksT d T n t cs) (n + cs.length) ∧ es'.length = es.length + 17 * cs.length ∧
      ∀ z ∈ es', z ∈ es ∨ ∃ c ∈ cs, ∃ q ∈ c, z.hash = q.1
  | [], T, n, t, es, e, hd, hF, hg, hne, hl => ⟨es, e, hg, hne, hF, by simp, fun z hz => .inl hz⟩
  | c :: cs, T, n, t, es, e, hd, hF, hg, hne, hl => by
    have l17 := hl c List.mem_cons_self
    have g1 : (pushAll n (T.ins n (dO #[] 0)) (entsAt3 t c)).get d = some (dO es.toArray e) := by rw [pushAll_other (by omega), ins_other hF.room (by omega)]; exact hg
    have g2 := pushAll_same (entsAt3 t c) _ _ _ g1
    rw [List.append_toArray] at g2
    obtain ⟨es', e', k1, k2, k3, k4, k5⟩ := chunks_facts cs (chunkT d T n t c) (n + 1) (t + 51) (es ++ entsAt3 t c) _ (by omega) ((hF.ins.pushAll _).pushAll _) g2 (by simp [hne]) (fun a ha => hl a (List.mem_cons_of_mem _ ha))
    refine ⟨es', e', k1, k2, by rw [List.length_cons, show n + (cs.length + 1) = n + 1 + cs.length by omega]; exact k3, by rw [k4, List.length_append, entsAt3_len, List.length_cons]; omega, fun z hz => ?_⟩
    rcases k5 z hz with hz | ⟨a, ha, q, hq, e⟩
    · rcases List.mem_append.mp hz with hz | hz
      · exact .inl hz
      · obtain ⟨q', hq', e⟩ := entsAt3_hash _ _ _ hz
        exact .inr ⟨c, List.mem_cons_self, q', hq', e⟩
    · exact .inr ⟨a, List.mem_cons_of_mem _ ha, q, hq, e⟩
section
variable {pw : Program} {w : World} {os : OsState} {bd : List Stmt} {env : Env}
noncomputable def finT (T : BT) (n t : Nat) (c0 : List (Int × Str)) (cs : List (List (Int × Str))) (last : List (Int × Str)) : BT :=
  let T2 := chunksT n (pushAll n (T.ins n (dO #[] 0)) (entsAt3 t c0)) (n + 1) (t + 51) cs
  pushAll n (pushAll (n + 1 + cs.length) (T2.ins (n + 1 + cs.length) (dO #[] 0)) (entsAt2 (t + 51 + 51 * cs.length) last)) (entsAt2 (t + 51 + 51 * cs.length) last)
theorem ev_disp {B B' : Nat} {s s1 s2 : SharedT} {p p1 p2 : Pos} {items : List (Option (Sem Value) × Sem Value)} {m : Option Addr} {r : Run} {d : Addr}
    (h : ∀ f, BodyIs f → Ev pw w (cE bd env) B s p (forIn items ((none, []) : DSt) f) (m, r) s1 p1) (k : Ev pw w (cE bd env) B' s1 p1 (flushD r m) (some d) s2 p2) :
    Ev pw w (cE bd env) (B' + B) s p (dictDisplay items) (.ref d) s2 p2 := by
  unfold dictDisplay
  dsimp only
  refine Ev.bind (h _ (fun k v m r => by kernel_rfl)) ?_
  exact Ev.le (Ev.bind k Ev.pure) (by omega)
theorem ev_display {D : Pos} {T : BT} {n t : Nat} (h28 : 28 ≤ n) (hF : Full T n) (c0 : List (Int × Str)) (cs : List (List (Int × Str))) (last : List (Int × Str)) (l0 : c0.length = 17) (hl : ∀ c ∈ cs, c.length = 17)
    (hlast : last ≠ []) (hlast2 : last.length ≤ 15) (hsz : 17 * cs.length < 90000) (hb0 : ∀ q ∈ c0, 0 ≤ q.1 ∧ q.1 < 2 ^ 60) (hb : ∀ c ∈ cs, ∀ q ∈ c, 0 ≤ q.1 ∧ q.1 < 2 ^ 60) (hb2 : ∀ q ∈ last, 0 ≤ q.1 ∧ q.1 < 2 ^ 60)
    (hp0 : c0.Pairwise (fun a b => a.1 < b.1)) (hp : ∀ c ∈ cs, c.Pairwise (fun a b => a.1 < b.1)) (hp2 : last.Pairwise (fun a b => a.1 < b.1))
    (h01 : ∀ p ∈ c0, ∀ c ∈ cs, ∀ q ∈ c, p.1 < q.1) (hcc : cs.Pairwise (fun a b => ∀ p ∈ a, ∀ q ∈ b, p.1 < q.1)) (h02 : ∀ p ∈ c0, ∀ q ∈ last, p.1 < q.1) (h12 : ∀ c ∈ cs, ∀ p ∈ c, ∀ q ∈ last, p.1 < q.1) :
    Ev pw w (cE bd env) (330 * cs.length + 600) (sT os T n t) D (dictDisplay (c0.map (it D) ++ (cs.flatMap (fun c => c.map (it D)) ++ last.map (it D)))) (.ref n)
      (sT os (finT T n t c0 cs last) (n + 1 + cs.length + 1) (t + 51 + 51 * cs.length + 3 * last.length)) D := by
  have hsub := ev_subDict (pw := pw) (w := w) (os := os) (bd := bd) (env := env) (D := D) (n := n) h28 c0 T t hF.room (by omega) (by omega) hb0 hp0
  have e51 : t + 3 * c0.length = t + 51 := by omega
  rw [e51] at hsub
  have g1 : (pushAll n (T.ins n (dO #[] 0)) (entsAt3 t c0)).get n = some (dO (entsAt3 t c0).toArray (0 + (entsAt3 t c0).length)) := by
    have := pushAll_same (entsAt3 t c0) (T.ins n (dO #[] 0)) #[] 0 (ins_get hF.room)
    simpa using this
  have e0 : entsAt3 t c0 ≠ [] := fun q => by have := entsAt3_len t c0; rw [q, l0] at this; cases this
  refine Ev.le (B := 300 + (330 * cs.length + 300)) ?_ (by omega)
  refine ev_disp (m := some n) (r := last.map (pr D)) (s1 := sT os (chunksT n (pushAll n (T.ins n (dO #[] 0)) (entsAt3 t c0)) (n + 1) (t + 51) cs) (n + 1 + cs.length) (t + 51 + 51 * cs.length)) (p1 := D) ?_ ?_
  · intro f hf
    rw [pend hf c0 [] (by intro q; rw [q] at l0; cases l0) (by simpa using l0), List.nil_append]
    have hrun : (c0.map (pr D)).isEmpty = false := by
      cases c0 with
      | nil => cases l0
      | cons => rfl
    refine Ev.le (B := (330 * cs.length + 0) + (13 * c0.length + 2)) ?_ (by omega)
    refine Ev.bind (a := some n) (s' := sT os (pushAll n (T.ins n (dO #[] 0)) (entsAt3 t c0)) (n + 1) (t + 51)) (p' := D) ?_ ?_
    · unfold flushD
      simp only [hrun]
      exact Ev.le (Ev.bind hsub Ev.pure) (by omega)
    · refine ev_chunks hf h28 cs _ _ _ (entsAt3 t c0) _ (by omega) (hF.ins.pushAll _) g1 e0 (by rw [entsAt3_len]; omega) hl hb hp ?_ hcc ?_
      · intro z hz c hc q hq
        obtain ⟨q', hq', e⟩ := entsAt3_hash _ _ _ hz
        rw [e]; exact h01 q' hq' c hc q hq
      · intro es' e' k1 k2 k3 k4 k5
        rw [pendRest hf last [] (by simp; omega)]
        exact Ev.pure
  · have hl1 : (last.map (pr D)).isEmpty = false := by
      cases last with
      | nil => exact absurd rfl hlast
      | cons => rfl
    obtain ⟨es', e', k1, k2, k3, k4, k5⟩ := chunks_facts cs (pushAll n (T.ins n (dO #[] 0)) (entsAt3 t c0)) (n + 1) (t + 51) (entsAt3 t c0) _ (by omega) (hF.ins.pushAll _) g1 e0 hl
    have hs2 := ev_subShort (pw := pw) (w := w) (os := os) (bd := bd) (env := env) (D := D) (n := n + 1 + cs.length) (by omega) last (chunksT n (pushAll n (T.ins n (dO #[] 0)) (entsAt3 t c0)) (n + 1) (t + 51) cs) (t + 51 + 51 * cs.length) k3.room hlast2 hb2 hp2
    have hh := asc_hash2 hp2 (t + 51 + 51 * cs.length)
    refine Ev.le (B := 6 * (entsAt2 (t + 51 + 51 * cs.length) last).length + 5 + (13 * last.length + 1)) ?_ (by rw [entsAt2_len]; omega)
    exact ev_flushMain hl1 (by omega) h28 k3 k1 (by cases es' with | nil => exact absurd rfl k2 | cons => rfl) (by rw [entsAt2_len, List.size_toArray, k4, entsAt3_len]; omega) (entsAt2_key _ _)
      (fun z hz y hy => by
        obtain ⟨q, hq, e⟩ := hh.2 y hy
        rw [e]
        rcases k5 z (by simpa using hz) with hz | ⟨c, hc, q', hq', e2⟩
        · obtain ⟨q', hq', e2⟩ := entsAt3_hash _ _ _ hz
          have := h02 q' hq' q hq
          rw [e2]; omega
        · have := h12 c hc q' hq' q hq
          rw [e2]; omega) hh.1 hs2
end
end Mine

end
section
open PySem PySem.W PyProof.Rows
set_option Elab.async false
set_option maxRecDepth 100000
set_option linter.unusedVariables false
namespace Mine
noncomputable def stm (i : Nat) : List Stmt := (pw.main.body.drop i).take 1
noncomputable def treeOf (l : List Obj) : BT := (l.foldl (fun (x : BT × Nat) o => (x.1.ins x.2 o, x.2 + 1)) (BT.nil, 0)).1
noncomputable def h0se (P : Params) : Obj := ⟨(.type "dict"), none, (.dict #[⟨H P (S "__name__"), .str (S "__name__") 1, (.str (S "builtins") 160)⟩, ⟨H P (S "__doc__"), .str (S "__doc__") 2, (.builtin "builtins.__doc__:str#opaque")⟩, ⟨H P (S "__package__"), .str (S "__package__") 3, (.builtin "builtins.__package__:str#opaque")⟩, ⟨H P (S "__loader__"), .str (S "__loader__") 4, (.builtin "builtins.__loader__:shared#opaque")⟩, ⟨H P (S "__spec__"), .str (S "__spec__") 5, (.builtin "builtins.__spec__#opaque")⟩, ⟨H P (S "__build_class__"), .str (S "__build_class__") 6, (.builtin "__build_class__")⟩, ⟨H P (S "__import__"), .str (S "__import__") 7, (.builtin "__import__")⟩, ⟨H P (S "abs"), .str (S "abs") 8, (.builtin "abs")⟩, ⟨H P (S "all"), .str (S "all") 9, (.builtin "all")⟩, ⟨H P (S "any"), .str (S "any") 10, (.builtin "any")⟩, ⟨H P (S "ascii"), .str (S "ascii") 11, (.builtin "ascii")⟩, ⟨H P (S "bin"), .str (S "bin") 12, (.builtin "bin")⟩, ⟨H P (S "breakpoint"), .str (S "breakpoint") 13, (.builtin "breakpoint")⟩, ⟨H P (S "callable"), .str (S "callable") 14, (.builtin "callable")⟩, ⟨H P (S "chr"), .str (S "chr") 15, (.builtin "chr")⟩, ⟨H P (S "compile"), .str (S "compile") 16, (.builtin "compile")⟩, ⟨H P (S "delattr"), .str (S "delattr") 17, (.builtin "delattr")⟩, ⟨H P (S "dir"), .str (S "dir") 18, (.builtin "dir")⟩, ⟨H P (S "divmod"), .str (S "divmod") 19, (.builtin "divmod")⟩, ⟨H P (S "eval"), .str (S "eval") 20, (.builtin "eval")⟩, ⟨H P (S "exec"), .str (S "exec") 21, (.builtin "exec")⟩, ⟨H P (S "format"), .str (S "format") 22, (.builtin "format")⟩, ⟨H P (S "getattr"), .str (S "getattr") 23, (.builtin "getattr")⟩, ⟨H P (S "globals"), .str (S "globals") 24, (.builtin "globals")⟩, ⟨H P (S "hasattr"), .str (S "hasattr") 25, (.builtin "hasattr")⟩, ⟨H P (S "hash"), .str (S "hash") 26, (.builtin "hash")⟩, ⟨H P (S "hex"), .str (S "hex") 27, (.builtin "hex")⟩, ⟨H P (S "id"), .str (S "id") 28, (.builtin "id")⟩, ⟨H P (S "input"), .str (S "input") 29, (.builtin "input")⟩, ⟨H P (S "isinstance"), .str (S "isinstance") 30, (.builtin "isinstance")⟩, ⟨H P (S "issubclass"), .str (S "issubclass") 31, (.builtin "issubclass")⟩, ⟨H P (S "iter"), .str (S "iter") 32, (.builtin "iter")⟩, ⟨H P (S "aiter"), .str (S "aiter") 33, (.builtin "aiter")⟩, ⟨H P (S "len"), .str (S "len") 34, (.builtin "len")⟩, ⟨H P (S "locals"), .str (S "locals") 35, (.builtin "locals")⟩, ⟨H P (S "max"), .str (S "max") 36, (.builtin "max")⟩, ⟨H P (S "min"), .str (S "min") 37, (.builtin "min")⟩, ⟨H P (S "next"), .str (S "next") 38, (.builtin "next")⟩, ⟨H P (S "anext"), .str (S "anext") 39, (.builtin "anext")⟩, ⟨H P (S "oct"), .str (S "oct") 40, (.builtin "oct")⟩, ⟨H P (S "ord"), .str (S "ord") 41, (.builtin "ord")⟩, ⟨H P (S "pow"), .str (S "pow") 42, (.builtin "pow")⟩, ⟨H P (S "print"), .str (S "print") 43, (.builtin "print")⟩, ⟨H P (S "repr"), .str (S "repr") 44, (.builtin "repr")⟩, ⟨H P (S "round"), .str (S "round") 45, (.builtin "round")⟩, ⟨H P (S "setattr"), .str (S "setattr") 46, (.builtin "setattr")⟩, ⟨H P (S "sorted"), .str (S "sorted") 47, (.builtin "sorted")⟩, ⟨H P (S "sum"), .str (S "sum") 48, (.builtin "sum")⟩, ⟨H P (S "vars"), .str (S "vars") 49, (.builtin "vars")⟩, ⟨H P (S "None"), .str (S "None") 50, .none⟩, ⟨H P (S "Ellipsis"), .str (S "Ellipsis") 51, .ellipsis⟩, ⟨H P (S "NotImplemented"), .str (S "NotImplemented") 52, .notImplemented⟩, ⟨H P (S "False"), .str (S "False") 53, (.bool false)⟩, ⟨H P (S "True"), .str (S "True") 54, (.bool true)⟩, ⟨H P (S "bool"), .str (S "bool") 55, (.type "bool")⟩, ⟨H P (S "memoryview"), .str (S "memoryview") 56, (.type "memoryview")⟩, ⟨H P (S "bytearray"), .str (S "bytearray") 57, (.type "bytearray")⟩, ⟨H P (S "bytes"), .str (S "bytes") 58, (.type "bytes")⟩, ⟨H P (S "classmethod"), .str (S "classmethod") 59, (.type "classmethod")⟩, ⟨H P (S "complex"), .str (S "complex") 60, (.type "complex")⟩, ⟨H P (S "dict"), .str (S "dict") 61, (.type "dict")⟩, ⟨H P (S "enumerate"), .str (S "enumerate") 62, (.type "enumerate")⟩, ⟨H P (S "filter"), .str (S "filter") 63, (.type "filter")⟩, ⟨H P (S "float"), .str (S "float") 64, (.type "float")⟩, ⟨H P (S "frozenset"), .str (S "frozenset") 65, (.type "frozenset")⟩, ⟨H P (S "property"), .str (S "property") 66, (.type "property")⟩, ⟨H P (S "int"), .str (S "int") 67, (.type "int")⟩, ⟨H P (S "list"), .str (S "list") 68, (.type "list")⟩, ⟨H P (S "map"), .str (S "map") 69, (.type "map")⟩, ⟨H P (S "object"), .str (S "object") 70, (.type "object")⟩, ⟨H P (S "range"), .str (S "range") 71, (.type "range")⟩, ⟨H P (S "reversed"), .str (S "reversed") 72, (.type "reversed")⟩, ⟨H P (S "set"), .str (S "set") 73, (.type "set")⟩, ⟨H P (S "slice"), .str (S "slice") 74, (.type "slice")⟩, ⟨H P (S "staticmethod"), .str (S "staticmethod") 75, (.type "staticmethod")⟩, ⟨H P (S "str"), .str (S "str") 76, (.type "str")⟩, ⟨H P (S "super"), .str (S "super") 77, (.type "super")⟩, ⟨H P (S "tuple"), .str (S "tuple") 78, (.type "tuple")⟩, ⟨H P (S "type"), .str (S "type") 79, (.type "type")⟩, ⟨H P (S "zip"), .str (S "zip") 80, (.type "zip")⟩, ⟨H P (S "__debug__"), .str (S "__debug__") 81, (.bool true)⟩, ⟨H P (S "BaseException"), .str (S "BaseException") 82, (.type "BaseException")⟩, ⟨H P (S "BaseExceptionGroup"), .str (S "BaseExceptionGroup") 83, (.type "BaseExceptionGroup")⟩, ⟨H P (S "Exception"), .str (S "Exception") 84, (.type "Exception")⟩, ⟨H P (S "GeneratorExit"), .str (S "GeneratorExit") 85, (.type "GeneratorExit")⟩, ⟨H P (S "KeyboardInterrupt"), .str (S "KeyboardInterrupt") 86, (.type "KeyboardInterrupt")⟩, ⟨H P (S "SystemExit"), .str (S "SystemExit") 87, (.type "SystemExit")⟩, ⟨H P (S "ArithmeticError"), .str (S "ArithmeticError") 88, (.type "ArithmeticError")⟩, ⟨H P (S "AssertionError"), .str (S "AssertionError") 89, (.type "AssertionError")⟩, ⟨H P (S "AttributeError"), .str (S "AttributeError") 90, (.type "AttributeError")⟩, ⟨H P (S "BufferError"), .str (S "BufferError") 91, (.type "BufferError")⟩, ⟨H P (S "EOFError"), .str (S "EOFError") 92, (.type "EOFError")⟩, ⟨H P (S "ImportError"), .str (S "ImportError") 93, (.type "ImportError")⟩, ⟨H P (S "LookupError"), .str (S "LookupError") 94, (.type "LookupError")⟩, ⟨H P (S "MemoryError"), .str (S "MemoryError") 95, (.type "MemoryError")⟩, ⟨H P (S "NameError"), .str (S "NameError") 96, (.type "NameError")⟩, ⟨H P (S "OSError"), .str (S "OSError") 97, (.type "OSError")⟩, ⟨H P (S "ReferenceError"), .str (S "ReferenceError") 98, (.type "ReferenceError")⟩, ⟨H P (S "RuntimeError"), .str (S "RuntimeError") 99, (.type "RuntimeError")⟩, ⟨H P (S "StopAsyncIteration"), .str (S "StopAsyncIteration") 100, (.type "StopAsyncIteration")⟩, ⟨H P (S "StopIteration"), .str (S "StopIteration") 101, (.type "StopIteration")⟩, ⟨H P (S "SyntaxError"), .str (S "SyntaxError") 102, (.type "SyntaxError")⟩, ⟨H P (S "SystemError"), .str (S "SystemError") 103, (.type "SystemError")⟩, ⟨H P (S "TypeError"), .str (S "TypeError") 104, (.type "TypeError")⟩, ⟨H P (S "ValueError"), .str (S "ValueError") 105, (.type "ValueError")⟩, ⟨H P (S "Warning"), .str (S "Warning") 106, (.type "Warning")⟩, ⟨H P (S "FloatingPointError"), .str (S "FloatingPointError") 107, (.type "FloatingPointError")⟩, ⟨H P (S "OverflowError"), .str (S "OverflowError") 108, (.type "OverflowError")⟩, ⟨H P (S "ZeroDivisionError"), .str (S "ZeroDivisionError") 109, (.type "ZeroDivisionError")⟩, ⟨H P (S "BytesWarning"), .str (S "BytesWarning") 110, (.type "BytesWarning")⟩, ⟨H P (S "DeprecationWarning"), .str (S "DeprecationWarning") 111, (.type "DeprecationWarning")⟩, ⟨H P (S "EncodingWarning"), .str (S "EncodingWarning") 112, (.type "EncodingWarning")⟩, ⟨H P (S "FutureWarning"), .str (S "FutureWarning") 113, (.type "FutureWarning")⟩, ⟨H P (S "ImportWarning"), .str (S "ImportWarning") 114, (.type "ImportWarning")⟩, ⟨H P (S "PendingDeprecationWarning"), .str (S "PendingDeprecationWarning") 115, (.type "PendingDeprecationWarning")⟩, ⟨H P (S "ResourceWarning"), .str (S "ResourceWarning") 116, (.type "ResourceWarning")⟩, ⟨H P (S "RuntimeWarning"), .str (S "RuntimeWarning") 117, (.type "RuntimeWarning")⟩, ⟨H P (S "SyntaxWarning"), .str (S "SyntaxWarning") 118, (.type "SyntaxWarning")⟩, ⟨H P (S "UnicodeWarning"), .str (S "UnicodeWarning") 119, (.type "UnicodeWarning")⟩, ⟨H P (S "UserWarning"), .str (S "UserWarning") 120, (.type "UserWarning")⟩, ⟨H P (S "BlockingIOError"), .str (S "BlockingIOError") 121, (.type "BlockingIOError")⟩, ⟨H P (S "ChildProcessError"), .str (S "ChildProcessError") 122, (.type "ChildProcessError")⟩, ⟨H P (S "ConnectionError"), .str (S "ConnectionError") 123, (.type "ConnectionError")⟩, ⟨H P (S "FileExistsError"), .str (S "FileExistsError") 124, (.type "FileExistsError")⟩, ⟨H P (S "FileNotFoundError"), .str (S "FileNotFoundError") 125, (.type "FileNotFoundError")⟩, ⟨H P (S "InterruptedError"), .str (S "InterruptedError") 126, (.type "InterruptedError")⟩, ⟨H P (S "IsADirectoryError"), .str (S "IsADirectoryError") 127, (.type "IsADirectoryError")⟩, ⟨H P (S "NotADirectoryError"), .str (S "NotADirectoryError") 128, (.type "NotADirectoryError")⟩, ⟨H P (S "PermissionError"), .str (S "PermissionError") 129, (.type "PermissionError")⟩, ⟨H P (S "ProcessLookupError"), .str (S "ProcessLookupError") 130, (.type "ProcessLookupError")⟩, ⟨H P (S "TimeoutError"), .str (S "TimeoutError") 131, (.type "TimeoutError")⟩, ⟨H P (S "IndentationError"), .str (S "IndentationError") 132, (.type "IndentationError")⟩, ⟨H P (S "_IncompleteInputError"), .str (S "_IncompleteInputError") 133, (.type "_IncompleteInputError")⟩, ⟨H P (S "IndexError"), .str (S "IndexError") 134, (.type "IndexError")⟩, ⟨H P (S "KeyError"), .str (S "KeyError") 135, (.type "KeyError")⟩, ⟨H P (S "ModuleNotFoundError"), .str (S "ModuleNotFoundError") 136, (.type "ModuleNotFoundError")⟩, ⟨H P (S "NotImplementedError"), .str (S "NotImplementedError") 137, (.type "NotImplementedError")⟩, ⟨H P (S "PythonFinalizationError"), .str (S "PythonFinalizationError") 138, (.type "PythonFinalizationError")⟩, ⟨H P (S "RecursionError"), .str (S "RecursionError") 139, (.type "RecursionError")⟩, ⟨H P (S "UnboundLocalError"), .str (S "UnboundLocalError") 140, (.type "UnboundLocalError")⟩, ⟨H P (S "UnicodeError"), .str (S "UnicodeError") 141, (.type "UnicodeError")⟩, ⟨H P (S "BrokenPipeError"), .str (S "BrokenPipeError") 142, (.type "BrokenPipeError")⟩, ⟨H P (S "ConnectionAbortedError"), .str (S "ConnectionAbortedError") 143, (.type "ConnectionAbortedError")⟩, ⟨H P (S "ConnectionRefusedError"), .str (S "ConnectionRefusedError") 144, (.type "ConnectionRefusedError")⟩, ⟨H P (S "ConnectionResetError"), .str (S "ConnectionResetError") 145, (.type "ConnectionResetError")⟩, ⟨H P (S "TabError"), .str (S "TabError") 146, (.type "TabError")⟩, ⟨H P (S "UnicodeDecodeError"), .str (S "UnicodeDecodeError") 147, (.type "UnicodeDecodeError")⟩, ⟨H P (S "UnicodeEncodeError"), .str (S "UnicodeEncodeError") 148, (.type "UnicodeEncodeError")⟩, ⟨H P (S "UnicodeTranslateError"), .str (S "UnicodeTranslateError") 149, (.type "UnicodeTranslateError")⟩, ⟨H P (S "ExceptionGroup"), .str (S "ExceptionGroup") 150, (.type "ExceptionGroup")⟩, ⟨H P (S "EnvironmentError"), .str (S "EnvironmentError") 151, (.type "OSError")⟩, ⟨H P (S "IOError"), .str (S "IOError") 152, (.type "OSError")⟩, ⟨H P (S "open"), .str (S "open") 153, (.builtin "open")⟩, ⟨H P (S "quit"), .str (S "quit") 154, (.builtin "builtins.quit#opaque")⟩, ⟨H P (S "exit"), .str (S "exit") 155, (.builtin "builtins.exit#opaque")⟩, ⟨H P (S "copyright"), .str (S "copyright") 156, (.builtin "builtins.copyright#opaque")⟩, ⟨H P (S "credits"), .str (S "credits") 157, (.builtin "builtins.credits#opaque")⟩, ⟨H P (S "license"), .str (S "license") 158, (.builtin "builtins.license#opaque")⟩, ⟨H P (S "help"), .str (S "help") 159, (.builtin "builtins.help#opaque")⟩] 159), #[]⟩
noncomputable def h1se (P : Params) : Obj := ⟨(.type "dict"), none, (.dict #[⟨H P (S "builtins"), .str (S "builtins") 162, (.ref 4)⟩, ⟨H P (S "__main__"), .str (S "__main__") 163, (.ref 5)⟩, ⟨H P (S "_sre"), .str (S "_sre") 244, (.ref 12)⟩] 3), #[]⟩
noncomputable def h2se (P : Params) : Obj := ⟨.none, none, (.dict #[⟨H P (S "\x69mport.loaded._sre"), .str (S "\x69mport.loaded._sre") 183, (.bool true)⟩, ⟨H P (S "class._frozen_importlib.BuiltinImporter"), .str (S "class._frozen_importlib.BuiltinImporter") 185, (.ref 14)⟩, ⟨H P (S "watched.\x69mport"), .str (S "watched.\x69mport") 206, (.ref 18)⟩, ⟨H P (S "class._frozen_importlib.ModuleSpec"), .str (S "class._frozen_importlib.ModuleSpec") 216, (.ref 22)⟩, ⟨H P (S "sys.modules.booked-epoch"), .str (S "sys.modules.booked-epoch") 245, (.int 3 0)⟩, ⟨H P (S "\x69mport.later-laid._sre"), .str (S "\x69mport.later-laid._sre") 270, (.bool true)⟩, ⟨H P (S "watched.library"), .str (S "watched.library") 272, (.ref 27)⟩, ⟨H P (S "watched.library-objects"), .str (S "watched.library-objects") 0, (.str (PySem.Str.mk #[12]) 0)⟩, ⟨H P (S "watched.library-deep._sre"), .str (S "watched.library-deep._sre") 273, (.str (PySem.Str.mk #[4, 0, 0, 11, 4, 0, 0, 11, 4, 0, 0, 3, 4, 0, 0, 11, 8, 4, 100, 105, 99, 116, 2]) 0)⟩] 9), #[]⟩
noncomputable def h3se (P : Params) : Obj := ⟨(.type "dict"), none, (.dict #[⟨H P (S "__name__"), .str (S "__name__") 165, (.str (S "__main__") 164)⟩, ⟨H P (S "__doc__"), .str (S "__doc__") 166, .none⟩, ⟨H P (S "__package__"), .str (S "__package__") 167, .none⟩, ⟨H P (S "__loader__"), .str (S "__loader__") 168, (.builtin "__main__.__loader__#opaque")⟩, ⟨H P (S "__spec__"), .str (S "__spec__") 169, .none⟩, ⟨H P (S "__annotations__"), .str (S "__annotations__") 170, (.ref 6)⟩, ⟨H P (S "__builtins__"), .str (S "__builtins__") 171, (.ref 4)⟩, ⟨H P (S "__file__"), .str (S "__file__") 173, (.str (S "/claim/cut.py") 172)⟩, ⟨H P (S "__cached__"), .str (S "__cached__") 174, .none⟩, ⟨H P (S "_sre"), .str (S "_sre") 275, (.ref 12)⟩] 10), #[]⟩
noncomputable def h4se (P : Params) : Obj := ⟨(.type "module"), (some 0), .plain, #[]⟩
noncomputable def h5se (P : Params) : Obj := ⟨(.type "module"), (some 3), .plain, #[]⟩
noncomputable def h6se (P : Params) : Obj := ⟨(.type "dict"), none, (.dict #[] 0), #[]⟩
noncomputable def h7se (P : Params) : Obj := ⟨(.type "tuple"), none, (.seq #[] 0), #[]⟩
noncomputable def h8se (P : Params) : Obj := ⟨.none, none, (.fields #[]), #[]⟩
noncomputable def h9se (P : Params) : Obj := ⟨(.type "code"), none, (.fields #[(.str (S "<module>") 176), (.str (S "<module>") 177), (.str (S "/claim/cut.py") 178), (.int 1 0), (.int 0 0), (.int 0 0), (.int 0 0), (.int 0 0), (.ref 7), (.bool false), (.int 175 0), (.ref 8), .none, .none, .none, .none, (.int 179 0), (.int 1 0), (.str (S "/claim/cut.py") 180)]), #[]⟩
noncomputable def h10se (P : Params) : Obj := ⟨(.type "frame"), none, .plain, #[(some (.ref 9)), (some (.ref 3)), (some (.ref 3)), none, (some (.str (S "__main__") 164)), none, (some (.ref 0))]⟩
noncomputable def h11se (P : Params) : Obj := ⟨(.type "dict"), none, (.dict #[⟨H P (S "__name__"), .str (S "__name__") 247, (.str (S "_sre") 246)⟩, ⟨H P (S "__doc__"), .str (S "__doc__") 248, .none⟩, ⟨H P (S "__package__"), .str (S "__package__") 250, (.str (S "") 249)⟩, ⟨H P (S "__loader__"), .str (S "__loader__") 251, (.ref 14)⟩, ⟨H P (S "__spec__"), .str (S "__spec__") 252, (.ref 26)⟩, ⟨H P (S "compile"), .str (S "compile") 253, (.builtin "_sre.compile")⟩, ⟨H P (S "template"), .str (S "template") 254, (.builtin "_sre.template")⟩, ⟨H P (S "getcodesize"), .str (S "getcodesize") 255, (.builtin "_sre.getcodesize")⟩, ⟨H P (S "ascii_iscased"), .str (S "ascii_iscased") 256, (.builtin "_sre.ascii_iscased")⟩, ⟨H P (S "unicode_iscased"), .str (S "unicode_iscased") 257, (.builtin "_sre.unicode_iscased")⟩, ⟨H P (S "ascii_tolower"), .str (S "ascii_tolower") 258, (.builtin "_sre.ascii_tolower")⟩, ⟨H P (S "unicode_tolower"), .str (S "unicode_tolower") 259, (.builtin "_sre.unicode_tolower")⟩, ⟨H P (S "MAGIC"), .str (S "MAGIC") 261, (.int 20230612 260)⟩, ⟨H P (S "CODESIZE"), .str (S "CODESIZE") 263, (.int 4 262)⟩, ⟨H P (S "MAXREPEAT"), .str (S "MAXREPEAT") 265, (.int 4294967295 264)⟩, ⟨H P (S "MAXGROUPS"), .str (S "MAXGROUPS") 267, (.int 1073741823 266)⟩, ⟨H P (S "copyright"), .str (S "copyright") 269, (.str (S " SRE 2.2.2 Copyright (c) 1997-2002 by Secret Labs AB ") 268)⟩] 17), #[]⟩
noncomputable def h12se (P : Params) : Obj := ⟨(.type "module"), (some 11), .plain, #[]⟩
noncomputable def h13se (P : Params) : Obj := ⟨(.type "dict"), none, (.dict #[⟨H P (S "__module__"), .str (S "__module__") 189, (.str (S "_frozen_importlib") 186)⟩, ⟨H P (S "__firstlineno__"), .str (S "__firstlineno__") 190, (.int 971 187)⟩, ⟨H P (S "__doc__"), .str (S "__doc__") 191, (.builtin "_frozen_importlib.BuiltinImporter.__doc__:str#opaque")⟩, ⟨H P (S "_ORIGIN"), .str (S "_ORIGIN") 192, (.str (S "built-in") 188)⟩, ⟨H P (S "find_spec"), .str (S "find_spec") 193, (.builtin "_frozen_importlib.BuiltinImporter.find_spec#opaque")⟩, ⟨H P (S "create_module"), .str (S "create_module") 194, (.builtin "_frozen_importlib.BuiltinImporter.create_module#opaque")⟩, ⟨H P (S "exec_module"), .str (S "exec_module") 195, (.builtin "_frozen_importlib.BuiltinImporter.exec_module#opaque")⟩, ⟨H P (S "get_code"), .str (S "get_code") 196, (.builtin "_frozen_importlib.BuiltinImporter.get_code#opaque")⟩, ⟨H P (S "get_source"), .str (S "get_source") 197, (.builtin "_frozen_importlib.BuiltinImporter.get_source#opaque")⟩, ⟨H P (S "is_package"), .str (S "is_package") 198, (.builtin "_frozen_importlib.BuiltinImporter.is_package#opaque")⟩, ⟨H P (S "load_module"), .str (S "load_module") 199, (.builtin "_frozen_importlib.BuiltinImporter.load_module#opaque")⟩, ⟨H P (S "__static_attributes__"), .str (S "__static_attributes__") 200, (.ref 15)⟩, ⟨H P (S "__dict__"), .str (S "__dict__") 202, (.ref 16)⟩, ⟨H P (S "__weakref__"), .str (S "__weakref__") 204, (.ref 17)⟩] 14), #[]⟩
noncomputable def h14se (P : Params) : Obj := ⟨(.type "type"), none, (.cls { name := (S "BuiltinImporter"), bases := [(.type "object")], mro := [(.ref 14), (.type "object")], ns := 13, qualname := (S "BuiltinImporter"), hasDict := true, slotNames := [], subclasses := [], abstract := false, collection := none, hasDel := false }), #[]⟩
noncomputable def h15se (P : Params) : Obj := ⟨(.type "tuple"), none, (.seq #[] 0), #[]⟩
noncomputable def h16se (P : Params) : Obj := ⟨(.type "getset_descriptor"), none, (.fields #[(.str (S "__dict__") 201), (.ref 14), (.builtin "function.__dict__"), (.builtin "function.__dict__#set")]), #[]⟩
noncomputable def h17se (P : Params) : Obj := ⟨(.type "getset_descriptor"), none, (.fields #[(.str (S "__weakref__") 203), (.ref 14), (.builtin "ExceptionGroup.__weakref__"), .none]), #[]⟩
noncomputable def h18se (P : Params) : Obj := ⟨.none, none, (.seq #[(.int 13 0), (.str (PySem.Str.mk #[6, 189, 10, 95, 95, 109, 111, 100, 117, 108, 101, 95, 95, 6, 186, 17, 95, 102, 114, 111, 122, 101, 110, 95, 105, 109, 112, 111, 114, 116, 108, 105, 98, 6, 190, 15, 95, 95, 102, 105, 114, 115, 116, 108, 105, 110, 101, 110, 111, 95, 95, 4, 187, 0, 971, 6, 191, 7, 95, 95, 100, 111, 99, 95, 95, 9, 52, 95, 102, 114, 111, 122, 101, 110, 95, 105, 109, 112, 111, 114, 116, 108, 105, 98, 46, 66, 117, 105, 108, 116, 105, 110, 73, 109, 112, 111, 114, 116, 101, 114, 46, 95, 95, 100, 111, 99, 95, 95, 58, 115, 116, 114, 35, 111, 112, 97, 113, 117, 101, 6, 192, 7, 95, 79, 82, 73, 71, 73, 78, 6, 188, 8, 98, 117, 105, 108, 116, 45, 105, 110, 6, 193, 9, 102, 105, 110, 100, 95, 115, 112, 101, 99, 9, 50, 95, 102, 114, 111, 122, 101, 110, 95, 105, 109, 112, 111, 114, 116, 108, 105, 98, 46, 66, 117, 105, 108, 116, 105, 110, 73, 109, 112, 111, 114, 116, 101, 114, 46, 102, 105, 110, 100, 95, 115, 112, 101, 99, 35, 111, 112, 97, 113, 117, 101, 6, 194, 13, 99, 114, 101, 97, 116, 101, 95, 109, 111, 100, 117, 108, 101, 9, 54, 95, 102, 114, 111, 122, 101, 110, 95, 105, 109, 112, 111, 114, 116, 108, 105, 98, 46, 66, 117, 105, 108, 116, 105, 110, 73, 109, 112, 111, 114, 116, 101, 114, 46, 99, 114, 101, 97, 116, 101, 95, 109, 111, 100, 117, 108, 101, 35, 111, 112, 97, 113, 117, 101, 6, 195, 11, 101, 120, 101, 99, 95, 109, 111, 100, 117, 108, 101, 9, 52, 95, 102, 114, 111, 122, 101, 110, 95, 105, 109, 112, 111, 114, 116, 108, 105, 98, 46, 66, 117, 105, 108, 116, 105, 110, 73, 109, 112, 111, 114, 116, 101, 114, 46, 101, 120, 101, 99, 95, 109, 111, 100, 117, 108, 101, 35, 111, 112, 97, 113, 117, 101, 6, 196, 8, 103, 101, 116, 95, 99, 111, 100, 101, 9, 49, 95, 102, 114, 111, 122, 101, 110, 95, 105, 109, 112, 111, 114, 116, 108, 105, 98, 46, 66, 117, 105, 108, 116, 105, 110, 73, 109, 112, 111, 114, 116, 101, 114, 46, 103, 101, 116, 95, 99, 111, 100, 101, 35, 111, 112, 97, 113, 117, 101, 6, 197, 10, 103, 101, 116, 95, 115, 111, 117, 114, 99, 101, 9, 51, 95, 102, 114, 111, 122, 101, 110, 95, 105, 109, 112, 111, 114, 116, 108, 105, 98, 46, 66, 117, 105, 108, 116, 105, 110, 73, 109, 112, 111, 114, 116, 101, 114, 46, 103, 101, 116, 95, 115, 111, 117, 114, 99, 101, 35, 111, 112, 97, 113, 117, 101, 6, 198, 10, 105, 115, 95, 112, 97, 99, 107, 97, 103, 101, 9, 51, 95, 102, 114, 111, 122, 101, 110, 95, 105, 109, 112, 111, 114, 116, 108, 105, 98, 46, 66, 117, 105, 108, 116, 105, 110, 73, 109, 112, 111, 114, 116, 101, 114, 46, 105, 115, 95, 112, 97, 99, 107, 97, 103, 101, 35, 111, 112, 97, 113, 117, 101, 6, 199, 11, 108, 111, 97, 100, 95, 109, 111, 100, 117, 108, 101, 9, 52, 95, 102, 114, 111, 122, 101, 110, 95, 105, 109, 112, 111, 114, 116, 108, 105, 98, 46, 66, 117, 105, 108, 116, 105, 110, 73, 109, 112, 111, 114, 116, 101, 114, 46, 108, 111, 97, 100, 95, 109, 111, 100, 117, 108, 101, 35, 111, 112, 97, 113, 117, 101, 6, 200, 21, 95, 95, 115, 116, 97, 116, 105, 99, 95, 97, 116, 116, 114, 105, 98, 117, 116, 101, 115, 95, 95, 4, 0, 0, 15, 6, 202, 8, 95, 95, 100, 105, 99, 116, 95, 95, 4, 0, 0, 16, 6, 204, 11, 95, 95, 119, 101, 97, 107, 114, 101, 102, 95, 95, 4, 0, 0, 17]) 0), (.bool true), (.bool true), (.str (S "") 205), (.int 21 0), (.str (PySem.Str.mk #[6, 227, 10, 95, 95, 109, 111, 100, 117, 108, 101, 95, 95, 6, 217, 17, 95, 102, 114, 111, 122, 101, 110, 95, 105, 109, 112, 111, 114, 116, 108, 105, 98, 6, 228, 15, 95, 95, 102, 105, 114, 115, 116, 108, 105, 110, 101, 110, 111, 95, 95, 4, 218, 0, 562, 6, 229, 7, 95, 95, 100, 111, 99, 95, 95, 9, 47, 95, 102, 114, 111, 122, 101, 110, 95, 105, 109, 112, 111, 114, 116, 108, 105, 98, 46, 77, 111, 100, 117, 108, 101, 83, 112, 101, 99, 46, 95, 95, 100, 111, 99, 95, 95, 58, 115, 116, 114, 35, 111, 112, 97, 113, 117, 101, 6, 230, 8, 95, 95, 105, 110, 105, 116, 95, 95, 9, 44, 95, 102, 114, 111, 122, 101, 110, 95, 105, 109, 112, 111, 114, 116, 108, 105, 98, 46, 77, 111, 100, 117, 108, 101, 83, 112, 101, 99, 46, 95, 95, 105, 110, 105, 116, 95, 95, 35, 111, 112, 97, 113, 117, 101, 6, 231, 8, 95, 95, 114, 101, 112, 114, 95, 95, 9, 44, 95, 102, 114, 111, 122, 101, 110, 95, 105, 109, 112, 111, 114, 116, 108, 105, 98, 46, 77, 111, 100, 117, 108, 101, 83, 112, 101, 99, 46, 95, 95, 114, 101, 112, 114, 95, 95, 35, 111, 112, 97, 113, 117, 101, 6, 232, 6, 95, 95, 101, 113, 95, 95, 9, 42, 95, 102, 114, 111, 122, 101, 110, 95, 105, 109, 112, 111, 114, 116, 108, 105, 98, 46, 77, 111, 100, 117, 108, 101, 83, 112, 101, 99, 46, 95, 95, 101, 113, 95, 95, 35, 111, 112, 97, 113, 117, 101, 6, 233, 6, 99, 97, 99, 104, 101, 100, 9, 42, 95, 102, 114, 111, 122, 101, 110, 95, 105, 109, 112, 111, 114, 116, 108, 105, 98, 46, 77, 111, 100, 117, 108, 101, 83, 112, 101, 99, 46, 99, 97, 99, 104, 101, 100, 35, 111, 112, 97, 113, 117, 101, 6, 234, 6, 112, 97, 114, 101, 110, 116, 9, 42, 95, 102, 114, 111, 122, 101, 110, 95, 105, 109, 112, 111, 114, 116, 108, 105, 98, 46, 77, 111, 100, 117, 108, 101, 83, 112, 101, 99, 46, 112, 97, 114, 101, 110, 116, 35, 111, 112, 97, 113, 117, 101, 6, 235, 12, 104, 97, 115, 95, 108, 111, 99, 97, 116, 105, 111, 110, 9, 48, 95, 102, 114, 111, 122, 101, 110, 95, 105, 109, 112, 111, 114, 116, 108, 105, 98, 46, 77, 111, 100, 117, 108, 101, 83, 112, 101, 99, 46, 104, 97, 115, 95, 108, 111, 99, 97, 116, 105, 111, 110, 35, 111, 112, 97, 113, 117, 101, 6, 236, 21, 95, 95, 115, 116, 97, 116, 105, 99, 95, 97, 116, 116, 114, 105, 98, 117, 116, 101, 115, 95, 95, 4, 0, 0, 23, 6, 238, 8, 95, 95, 100, 105, 99, 116, 95, 95, 4, 0, 0, 24, 6, 240, 11, 95, 95, 119, 101, 97, 107, 114, 101, 102, 95, 95, 4, 0, 0, 25, 6, 241, 8, 95, 95, 104, 97, 115, 104, 95, 95, 0]) 0), (.bool true), (.bool true), (.str (S "") 242)] 1), #[]⟩
noncomputable def h19se (P : Params) : Obj := ⟨(.type "list"), none, (.seq #[] 0), #[]⟩
noncomputable def h20se (P : Params) : Obj := ⟨(.type "dict"), none, (.dict #[⟨H P (S "name"), .str (S "name") 208, (.str (S "_sre") 207)⟩, ⟨H P (S "loader"), .str (S "loader") 209, (.ref 14)⟩, ⟨H P (S "origin"), .str (S "origin") 210, (.str (S "built-in") 184)⟩, ⟨H P (S "loader_state"), .str (S "loader_state") 211, .none⟩, ⟨H P (S "submodule_search_locations"), .str (S "submodule_search_locations") 212, .none⟩, ⟨H P (S "_uninitialized_submodules"), .str (S "_uninitialized_submodules") 213, (.ref 19)⟩, ⟨H P (S "_set_fileattr"), .str (S "_set_fileattr") 214, (.bool false)⟩, ⟨H P (S "_cached"), .str (S "_cached") 215, .none⟩, ⟨H P (S "_initializing"), .str (S "_initializing") 243, (.bool false)⟩] 9), #[]⟩
noncomputable def h21se (P : Params) : Obj := ⟨(.type "dict"), none, (.dict #[⟨H P (S "__module__"), .str (S "__module__") 227, (.str (S "_frozen_importlib") 217)⟩, ⟨H P (S "__firstlineno__"), .str (S "__firstlineno__") 228, (.int 562 218)⟩, ⟨H P (S "__doc__"), .str (S "__doc__") 229, (.builtin "_frozen_importlib.ModuleSpec.__doc__:str#opaque")⟩, ⟨H P (S "__init__"), .str (S "__init__") 230, (.builtin "_frozen_importlib.ModuleSpec.__init__#opaque")⟩, ⟨H P (S "__repr__"), .str (S "__repr__") 231, (.builtin "_frozen_importlib.ModuleSpec.__repr__#opaque")⟩, ⟨H P (S "__eq__"), .str (S "__eq__") 232, (.builtin "_frozen_importlib.ModuleSpec.__eq__#opaque")⟩, ⟨H P (S "cached"), .str (S "cached") 233, (.builtin "_frozen_importlib.ModuleSpec.cached#opaque")⟩, ⟨H P (S "parent"), .str (S "parent") 234, (.builtin "_frozen_importlib.ModuleSpec.parent#opaque")⟩, ⟨H P (S "has_location"), .str (S "has_location") 235, (.builtin "_frozen_importlib.ModuleSpec.has_location#opaque")⟩, ⟨H P (S "__static_attributes__"), .str (S "__static_attributes__") 236, (.ref 23)⟩, ⟨H P (S "__dict__"), .str (S "__dict__") 238, (.ref 24)⟩, ⟨H P (S "__weakref__"), .str (S "__weakref__") 240, (.ref 25)⟩, ⟨H P (S "__hash__"), .str (S "__hash__") 241, .none⟩] 13), #[]⟩
noncomputable def h22se (P : Params) : Obj := ⟨(.type "type"), none, (.cls { name := (S "ModuleSpec"), bases := [(.type "object")], mro := [(.ref 22), (.type "object")], ns := 21, qualname := (S "ModuleSpec"), hasDict := true, slotNames := [], subclasses := [], abstract := false, collection := none, hasDel := false }), #[]⟩
noncomputable def h23se (P : Params) : Obj := ⟨(.type "tuple"), none, (.seq #[(.str (S "_cached") 219), (.str (S "_set_fileattr") 220), (.str (S "_uninitialized_submodules") 221), (.str (S "loader") 222), (.str (S "loader_state") 223), (.str (S "name") 224), (.str (S "origin") 225), (.str (S "submodule_search_locations") 226)] 0), #[]⟩
noncomputable def h24se (P : Params) : Obj := ⟨(.type "getset_descriptor"), none, (.fields #[(.str (S "__dict__") 237), (.ref 22), (.builtin "function.__dict__"), (.builtin "function.__dict__#set")]), #[]⟩
noncomputable def h25se (P : Params) : Obj := ⟨(.type "getset_descriptor"), none, (.fields #[(.str (S "__weakref__") 239), (.ref 22), (.builtin "ExceptionGroup.__weakref__"), .none]), #[]⟩
noncomputable def h26se (P : Params) : Obj := ⟨(.ref 22), (some 20), .plain, #[]⟩
noncomputable def h27se (P : Params) : Obj := ⟨.none, none, (.seq #[(.int 11 0), (.str (PySem.Str.mk #[6, 247, 8, 95, 95, 110, 97, 109, 101, 95, 95, 6, 246, 4, 95, 115, 114, 101, 6, 248, 7, 95, 95, 100, 111, 99, 95, 95, 0, 6, 250, 11, 95, 95, 112, 97, 99, 107, 97, 103, 101, 95, 95, 6, 249, 0, 6, 251, 10, 95, 95, 108, 111, 97, 100, 101, 114, 95, 95, 4, 0, 0, 14, 6, 252, 8, 95, 95, 115, 112, 101, 99, 95, 95, 4, 0, 0, 26, 6, 253, 7, 99, 111, 109, 112, 105, 108, 101, 9, 12, 95, 115, 114, 101, 46, 99, 111, 109, 112, 105, 108, 101, 6, 254, 8, 116, 101, 109, 112, 108, 97, 116, 101, 9, 13, 95, 115, 114, 101, 46, 116, 101, 109, 112, 108, 97, 116, 101, 6, 255, 11, 103, 101, 116, 99, 111, 100, 101, 115, 105, 122, 101, 9, 16, 95, 115, 114, 101, 46, 103, 101, 116, 99, 111, 100, 101, 115, 105, 122, 101, 6, 256, 13, 97, 115, 99, 105, 105, 95, 105, 115, 99, 97, 115, 101, 100, 9, 18, 95, 115, 114, 101, 46, 97, 115, 99, 105, 105, 95, 105, 115, 99, 97, 115, 101, 100, 6, 257, 15, 117, 110, 105, 99, 111, 100, 101, 95, 105, 115, 99, 97, 115, 101, 100, 9, 20, 95, 115, 114, 101, 46, 117, 110, 105, 99, 111, 100, 101, 95, 105, 115, 99, 97, 115, 101, 100, 6, 258, 13, 97, 115, 99, 105, 105, 95, 116, 111, 108, 111, 119, 101, 114, 9, 18, 95, 115, 114, 101, 46, 97, 115, 99, 105, 105, 95, 116, 111, 108, 111, 119, 101, 114, 6, 259, 15, 117, 110, 105, 99, 111, 100, 101, 95, 116, 111, 108, 111, 119, 101, 114, 9, 20, 95, 115, 114, 101, 46, 117, 110, 105, 99, 111, 100, 101, 95, 116, 111, 108, 111, 119, 101, 114, 6, 261, 5, 77, 65, 71, 73, 67, 4, 260, 0, 20230612, 6, 263, 8, 67, 79, 68, 69, 83, 73, 90, 69, 4, 262, 0, 4, 6, 265, 9, 77, 65, 88, 82, 69, 80, 69, 65, 84, 4, 264, 0, 4294967295, 6, 267, 9, 77, 65, 88, 71, 82, 79, 85, 80, 83, 4, 266, 0, 1073741823, 6, 269, 9, 99, 111, 112, 121, 114, 105, 103, 104, 116, 6, 268, 53, 32, 83, 82, 69, 32, 50, 46, 50, 46, 50, 32, 67, 111, 112, 121, 114, 105, 103, 104, 116, 32, 40, 99, 41, 32, 49, 57, 57, 55, 45, 50, 48, 48, 50, 32, 98, 121, 32, 83, 101, 99, 114, 101, 116, 32, 76, 97, 98, 115, 32, 65, 66, 32]) 0), (.bool true), (.bool false), (.str (S "_sre") 271)] 0), #[]⟩
noncomputable def Te (P : Params) : BT := treeOf [h0se P, h1se P, h2se P, h3se P, h4se P, h5se P, h6se P, h7se P, h8se P, h9se P, h10se P, h11se P, h12se P, h13se P, h14se P, h15se P, h16se P, h17se P, h18se P, h19se P, h20se P, h21se P, h22se P, h23se P, h24se P, h25se P, h26se P, h27se P]
noncomputable def h11s0 (P : Params) : Obj := ⟨(.type "dict"), none, (.dict #[⟨H P (S "__name__"), .str (S "__name__") 247, (.str (S "_sre") 246)⟩, ⟨H P (S "__doc__"), .str (S "__doc__") 248, .none⟩, ⟨H P (S "__package__"), .str (S "__package__") 250, (.str (S "") 249)⟩, ⟨H P (S "__loader__"), .str (S "__loader__") 251, (.builtin "off-the-table:_sre.__loader__:shared#opaque")⟩, ⟨H P (S "__spec__"), .str (S "__spec__") 252, (.builtin "off-the-table:_sre.__spec__:shared#opaque")⟩, ⟨H P (S "compile"), .str (S "compile") 253, (.builtin "_sre.compile")⟩, ⟨H P (S "template"), .str (S "template") 254, (.builtin "off-the-table:_sre.template:shared#opaque")⟩, ⟨H P (S "getcodesize"), .str (S "getcodesize") 255, (.builtin "off-the-table:_sre.getcodesize:shared#opaque")⟩, ⟨H P (S "ascii_iscased"), .str (S "ascii_iscased") 256, (.builtin "off-the-table:_sre.ascii_iscased:shared#opaque")⟩, ⟨H P (S "unicode_iscased"), .str (S "unicode_iscased") 257, (.builtin "off-the-table:_sre.unicode_iscased:shared#opaque")⟩, ⟨H P (S "ascii_tolower"), .str (S "ascii_tolower") 258, (.builtin "off-the-table:_sre.ascii_tolower:shared#opaque")⟩, ⟨H P (S "unicode_tolower"), .str (S "unicode_tolower") 259, (.builtin "off-the-table:_sre.unicode_tolower:shared#opaque")⟩, ⟨H P (S "MAGIC"), .str (S "MAGIC") 261, (.int 20230612 260)⟩, ⟨H P (S "CODESIZE"), .str (S "CODESIZE") 263, (.int 4 262)⟩, ⟨H P (S "MAXREPEAT"), .str (S "MAXREPEAT") 265, (.int 4294967295 264)⟩, ⟨H P (S "MAXGROUPS"), .str (S "MAXGROUPS") 267, (.int 1073741823 266)⟩, ⟨H P (S "copyright"), .str (S "copyright") 269, (.str (S " SRE 2.2.2 Copyright (c) 1997-2002 by Secret Labs AB ") 268)⟩] 17), #[]⟩
noncomputable def T0 (P : Params) : BT := treeOf [h0se P, h1se P, h2se P, h3se P, h4se P, h5se P, h6se P, h7se P, h8se P, h9se P, h10se P, h11s0 P, h12se P, h13se P, h14se P, h15se P, h16se P, h17se P, h18se P, h19se P, h20se P, h21se P, h22se P, h23se P, h24se P, h25se P, h26se P, h27se P]
noncomputable def h28sa (P : Params) : Obj := ⟨(.type "tuple"), none, (.seq #[] 0), #[]⟩
noncomputable def h29sa (P : Params) : Obj := ⟨.none, none, (.fields #[]), #[]⟩
noncomputable def h30sa (P : Params) : Obj := ⟨(.type "code"), none, (.fields #[(.str (S "<module>") 277), (.str (S "<module>") 278), (.str (S "/claim/cut.py") 279), (.int 1 0), (.int 0 0), (.int 0 0), (.int 0 0), (.int 0 0), (.ref 28), (.bool false), (.int 276 0), (.ref 29), .none, .none, .none, .none, (.int 280 0), (.int 1 0), (.str (S "/claim/cut.py") 281)]), #[]⟩
noncomputable def h31sa (P : Params) : Obj := ⟨(.type "frame"), none, .plain, #[(some (.ref 30)), (some (.ref 3)), (some (.ref 3)), none, (some (.str (S "__main__") 164)), none, (some (.ref 0))]⟩
noncomputable def Ta (P : Params) : BT := treeOf [h0se P, h1se P, h2se P, h3se P, h4se P, h5se P, h6se P, h7se P, h8se P, h9se P, h10se P, h11s0 P, h12se P, h13se P, h14se P, h15se P, h16se P, h17se P, h18se P, h19se P, h20se P, h21se P, h22se P, h23se P, h24se P, h25se P, h26se P, h27se P, h28sa P, h29sa P, h30sa P, h31sa P]
noncomputable def Tb (P : Params) : BT := treeOf [h0se P, h1se P, h2se P, h3se P, h4se P, h5se P, h6se P, h7se P, h8se P, h9se P, h10se P, h11s0 P, h12se P, h13se P, h14se P, h15se P, h16se P, h17se P, h18se P, h19se P, h20se P, h21se P, h22se P, h23se P, h24se P, h25se P, h26se P, h27se P, h28sa P, h29sa P, h30sa P, h31sa P]
noncomputable def h3s1 (P : Params) : Obj := ⟨(.type "dict"), none, (.dict #[⟨H P (S "__name__"), .str (S "__name__") 165, (.str (S "cpy313.stringprep") 282)⟩, ⟨H P (S "__doc__"), .str (S "__doc__") 166, .none⟩, ⟨H P (S "__package__"), .str (S "__package__") 167, .none⟩, ⟨H P (S "__loader__"), .str (S "__loader__") 168, (.builtin "__main__.__loader__#opaque")⟩, ⟨H P (S "__spec__"), .str (S "__spec__") 169, .none⟩, ⟨H P (S "__annotations__"), .str (S "__annotations__") 170, (.ref 6)⟩, ⟨H P (S "__builtins__"), .str (S "__builtins__") 171, (.ref 4)⟩, ⟨H P (S "__file__"), .str (S "__file__") 173, (.str (S "/claim/cut.py") 172)⟩, ⟨H P (S "__cached__"), .str (S "__cached__") 174, .none⟩, ⟨H P (S "_sre"), .str (S "_sre") 275, (.ref 12)⟩] 10), #[]⟩
noncomputable def T1 (P : Params) : BT := treeOf [h0se P, h1se P, h2se P, h3s1 P, h4se P, h5se P, h6se P, h7se P, h8se P, h9se P, h10se P, h11s0 P, h12se P, h13se P, h14se P, h15se P, h16se P, h17se P, h18se P, h19se P, h20se P, h21se P, h22se P, h23se P, h24se P, h25se P, h26se P, h27se P, h28sa P, h29sa P, h30sa P, h31sa P]
noncomputable def h3s2 (P : Params) : Obj := ⟨(.type "dict"), none, (.dict #[⟨H P (S "__name__"), .str (S "__name__") 165, (.str (S "cpy313.stringprep") 282)⟩, ⟨H P (S "__doc__"), .str (S "__doc__") 166, .none⟩, ⟨H P (S "__package__"), .str (S "__package__") 167, .none⟩, ⟨H P (S "__loader__"), .str (S "__loader__") 168, (.builtin "__main__.__loader__#opaque")⟩, ⟨H P (S "__spec__"), .str (S "__spec__") 169, .none⟩, ⟨H P (S "__annotations__"), .str (S "__annotations__") 170, (.ref 6)⟩, ⟨H P (S "__builtins__"), .str (S "__builtins__") 171, (.ref 4)⟩, ⟨H P (S "__file__"), .str (S "__file__") 173, (.str (S "/claim/cut.py") 172)⟩, ⟨H P (S "__cached__"), .str (S "__cached__") 174, .none⟩, ⟨H P (S "_sre"), .str (S "_sre") 275, (.ref 12)⟩, ⟨H P (S "b1_set"), .str (S "b1_set") 343, (.ref 39)⟩] 11), #[]⟩
noncomputable def h32s2 (P : Params) : Obj := ⟨(.type "list"), none, (.seq #[(.int 173 284), (.int 847 285), (.int 6150 286), (.int 6155 287), (.int 6156 288), (.int 6157 289), (.int 8203 290), (.int 8204 291), (.int 8205 292), (.int 8288 293), (.int 65279 294)] 0), #[]⟩
noncomputable def h33s2 (P : Params) : Obj := ⟨(.type "range"), none, (.fields #[(.int 65024 295), (.int 65040 296), (.int 1 297)]), #[]⟩
noncomputable def h34s2 (P : Params) : Obj := ⟨(.type "list"), none, (.seq #[(.int 65024 300), (.int 65025 301), (.int 65026 302), (.int 65027 303), (.int 65028 304), (.int 65029 305), (.int 65030 306), (.int 65031 307), (.int 65032 308), (.int 65033 309), (.int 65034 310), (.int 65035 311), (.int 65036 312), (.int 65037 313), (.int 65038 314), (.int 65039 315)] 18), #[]⟩
noncomputable def h35s2 (P : Params) : Obj := ⟨(.type "range_iterator"), none, (.fields #[(.int 65040 0), (.int 0 0), (.int 1 0)]), #[]⟩
noncomputable def h36s2 (P : Params) : Obj := ⟨(.type "tuple"), none, (.seq #[] 0), #[]⟩
noncomputable def h37s2 (P : Params) : Obj := ⟨(.type "StopIteration"), none, (.fields #[(.ref 36), .none, .none, .none, (.bool false), .none]), #[]⟩
noncomputable def h38s2 (P : Params) : Obj := ⟨(.type "list"), none, (.seq #[(.int 173 284), (.int 847 285), (.int 6150 286), (.int 6155 287), (.int 6156 288), (.int 6157 289), (.int 8203 290), (.int 8204 291), (.int 8205 292), (.int 8288 293), (.int 65279 294), (.int 65024 300), (.int 65025 301), (.int 65026 302), (.int 65027 303), (.int 65028 304), (.int 65029 305), (.int 65030 306), (.int 65031 307), (.int 65032 308), (.int 65033 309), (.int 65034 310), (.int 65035 311), (.int 65036 312), (.int 65037 313), (.int 65038 314), (.int 65039 315)] 0), #[]⟩
noncomputable def h39s2 (P : Params) : Obj := ⟨(.type "set"), none, (.set #[(65024, (.int 65024 300)), (65025, (.int 65025 301)), (65026, (.int 65026 302)), (65027, (.int 65027 303)), (65028, (.int 65028 304)), (65029, (.int 65029 305)), (6150, (.int 6150 286)), (65030, (.int 65030 306)), (65031, (.int 65031 307)), (65032, (.int 65032 308)), (65033, (.int 65033 309)), (6155, (.int 6155 287)), (6156, (.int 6156 288)), (6157, (.int 6157 289)), (8203, (.int 8203 290)), (8204, (.int 8204 291)), (8205, (.int 8205 292)), (65034, (.int 65034 310)), (65035, (.int 65035 311)), (65036, (.int 65036 312)), (65037, (.int 65037 313)), (65038, (.int 65038 314)), (65039, (.int 65039 315)), (173, (.int 173 284)), (847, (.int 847 285)), (8288, (.int 8288 293)), (65279, (.int 65279 294))] 29 { mask := 127, place := #[0, 1, 2, 3, 4, 5, 6, 7, 8, 9, 10, 11, 12, 13, 14, 15, 16, 17, 18, 19, 20, 21, 22, 45, 79, 96, 127], dummies := #[], finger := 0, led := LED P, moves := 2, plain := true }), #[]⟩
noncomputable def h40s2 (P : Params) : Obj := ⟨(.type "list_iterator"), none, (.fields #[.none, (.int 27 0)]), #[]⟩
noncomputable def h41s2 (P : Params) : Obj := ⟨(.type "tuple"), none, (.seq #[] 0), #[]⟩
noncomputable def h42s2 (P : Params) : Obj := ⟨(.type "StopIteration"), none, (.fields #[(.ref 41), .none, .none, .none, (.bool false), .none]), #[]⟩
noncomputable def T2 (P : Params) : BT := treeOf [h0se P, h1se P, h2se P, h3s2 P, h4se P, h5se P, h6se P, h7se P, h8se P, h9se P, h10se P, h11s0 P, h12se P, h13se P, h14se P, h15se P, h16se P, h17se P, h18se P, h19se P, h20se P, h21se P, h22se P, h23se P, h24se P, h25se P, h26se P, h27se P, h28sa P, h29sa P, h30sa P, h31sa P, h32s2 P, h33s2 P, h34s2 P, h35s2 P, h36s2 P, h37s2 P, h38s2 P, h39s2 P, h40s2 P, h41s2 P, h42s2 P]
noncomputable def h3s3 (P : Params) : Obj := ⟨(.type "dict"), none, (.dict #[⟨H P (S "__name__"), .str (S "__name__") 165, (.str (S "cpy313.stringprep") 282)⟩, ⟨H P (S "__doc__"), .str (S "__doc__") 166, .none⟩, ⟨H P (S "__package__"), .str (S "__package__") 167, .none⟩, ⟨H P (S "__loader__"), .str (S "__loader__") 168, (.builtin "__main__.__loader__#opaque")⟩, ⟨H P (S "__spec__"), .str (S "__spec__") 169, .none⟩, ⟨H P (S "__annotations__"), .str (S "__annotations__") 170, (.ref 6)⟩, ⟨H P (S "__builtins__"), .str (S "__builtins__") 171, (.ref 4)⟩, ⟨H P (S "__file__"), .str (S "__file__") 173, (.str (S "/claim/cut.py") 172)⟩, ⟨H P (S "__cached__"), .str (S "__cached__") 174, .none⟩, ⟨H P (S "_sre"), .str (S "_sre") 275, (.ref 12)⟩, ⟨H P (S "b1_set"), .str (S "b1_set") 343, (.ref 39)⟩, ⟨H P (S "in_table_b1"), .str (S "in_table_b1") 350, (.ref 49)⟩] 12), #[]⟩
noncomputable def h29s3 (P : Params) : Obj := ⟨.none, none, (.fields #[(.int 4 0), (.int 0 0), (.ref 48)]), #[]⟩
noncomputable def h43s3 (P : Params) : Obj := ⟨(.type "tuple"), none, (.seq #[] 0), #[]⟩
noncomputable def h44s3 (P : Params) : Obj := ⟨.none, none, (.fields #[]), #[]⟩
noncomputable def h45s3 (P : Params) : Obj := ⟨(.type "tuple"), none, (.seq #[(.str (S "code") 347)] 0), #[]⟩
noncomputable def h46s3 (P : Params) : Obj := ⟨(.type "tuple"), none, (.seq #[] 0), #[]⟩
noncomputable def h47s3 (P : Params) : Obj := ⟨.none, none, (.func { name := (S "in_table_b1"), qualname := (S "in_table_b1"), params := fpar3, body := .stmts fbody3, scope := fsco3, globals := 0, closure := [], defaults := .none, kwdefaults := .none, doc := .none, pyModule := .none, annotations := none, code := .none, closureTuple := .none, builtins := 0 }), #[]⟩
noncomputable def h48s3 (P : Params) : Obj := ⟨(.type "code"), none, (.fields #[(.str (S "in_table_b1") 344), (.str (S "in_table_b1") 345), (.str (S "/claim/cut.py") 346), (.int 4 0), (.int 1 0), (.int 0 0), (.int 0 0), (.int 3 0), (.ref 43), (.bool true), (.int 276 0), (.ref 44), .none, (.ref 45), (.ref 46), (.ref 47), (.int 348 0), (.int 4 0), (.str (S "/claim/cut.py") 349)]), #[]⟩
noncomputable def h49s3 (P : Params) : Obj := ⟨(.type "function"), none, (.func { name := (S "in_table_b1"), qualname := (S "in_table_b1"), params := fpar3, body := .stmts fbody3, scope := fsco3, globals := 3, closure := [], defaults := .none, kwdefaults := .none, doc := .none, pyModule := (.str (S "cpy313.stringprep") 282), annotations := none, code := (.ref 48), closureTuple := .none, builtins := 0 }), #[]⟩
noncomputable def T3 (P : Params) : BT := treeOf [h0se P, h1se P, h2se P, h3s3 P, h4se P, h5se P, h6se P, h7se P, h8se P, h9se P, h10se P, h11s0 P, h12se P, h13se P, h14se P, h15se P, h16se P, h17se P, h18se P, h19se P, h20se P, h21se P, h22se P, h23se P, h24se P, h25se P, h26se P, h27se P, h28sa P, h29s3 P, h30sa P, h31sa P, h32s2 P, h33s2 P, h34s2 P, h35s2 P, h36s2 P, h37s2 P, h38s2 P, h39s2 P, h40s2 P, h41s2 P, h42s2 P, h43s3 P, h44s3 P, h45s3 P, h46s3 P, h47s3 P, h48s3 P, h49s3 P]
noncomputable def h3s4 (P : Params) : Obj := ⟨(.type "dict"), none, (.dict #[⟨H P (S "__name__"), .str (S "__name__") 165, (.str (S "cpy313.stringprep") 282)⟩, ⟨H P (S "__doc__"), .str (S "__doc__") 166, .none⟩, ⟨H P (S "__package__"), .str (S "__package__") 167, .none⟩, ⟨H P (S "__loader__"), .str (S "__loader__") 168, (.builtin "__main__.__loader__#opaque")⟩, ⟨H P (S "__spec__"), .str (S "__spec__") 169, .none⟩, ⟨H P (S "__annotations__"), .str (S "__annotations__") 170, (.ref 6)⟩, ⟨H P (S "__builtins__"), .str (S "__builtins__") 171, (.ref 4)⟩, ⟨H P (S "__file__"), .str (S "__file__") 173, (.str (S "/claim/cut.py") 172)⟩, ⟨H P (S "__cached__"), .str (S "__cached__") 174, .none⟩, ⟨H P (S "_sre"), .str (S "_sre") 275, (.ref 12)⟩, ⟨H P (S "b1_set"), .str (S "b1_set") 343, (.ref 39)⟩, ⟨H P (S "in_table_b1"), .str (S "in_table_b1") 350, (.ref 49)⟩, ⟨H P (S "b3_exceptions"), .str (S "b3_exceptions") 2301, (.ref 50)⟩] 13), #[]⟩
noncomputable def h50s4 (P : Params) : Obj := dO (entsAt3 351 (b3pairs.take 646) ++ entsAt2 2289 (b3pairs.drop 646)).toArray 650
noncomputable def h51s4 (P : Params) : Obj := dO (entsAt3 402 ((b3pairs.drop 17).take 17)).toArray 17
noncomputable def h52s4 (P : Params) : Obj := dO (entsAt3 453 ((b3pairs.drop 34).take 17)).toArray 17
noncomputable def h53s4 (P : Params) : Obj := dO (entsAt3 504 ((b3pairs.drop 51).take 17)).toArray 17
noncomputable def h54s4 (P : Params) : Obj := dO (entsAt3 555 ((b3pairs.drop 68).take 17)).toArray 17
noncomputable def h55s4 (P : Params) : Obj := dO (entsAt3 606 ((b3pairs.drop 85).take 17)).toArray 17
noncomputable def h56s4 (P : Params) : Obj := dO (entsAt3 657 ((b3pairs.drop 102).take 17)).toArray 17
noncomputable def h57s4 (P : Params) : Obj := dO (entsAt3 708 ((b3pairs.drop 119).take 17)).toArray 17
noncomputable def h58s4 (P : Params) : Obj := dO (entsAt3 759 ((b3pairs.drop 136).take 17)).toArray 17
noncomputable def h59s4 (P : Params) : Obj := dO (entsAt3 810 ((b3pairs.drop 153).take 17)).toArray 17
noncomputable def h60s4 (P : Params) : Obj := dO (entsAt3 861 ((b3pairs.drop 170).take 17)).toArray 17
noncomputable def h61s4 (P : Params) : Obj := dO (entsAt3 912 ((b3pairs.drop 187).take 17)).toArray 17
noncomputable def h62s4 (P : Params) : Obj := dO (entsAt3 963 ((b3pairs.drop 204).take 17)).toArray 17
noncomputable def h63s4 (P : Params) : Obj := dO (entsAt3 1014 ((b3pairs.drop 221).take 17)).toArray 17
noncomputable def h64s4 (P : Params) : Obj := dO (entsAt3 1065 ((b3pairs.drop 238).take 17)).toArray 17
noncomputable def h65s4 (P : Params) : Obj := dO (entsAt3 1116 ((b3pairs.drop 255).take 17)).toArray 17
noncomputable def h66s4 (P : Params) : Obj := dO (entsAt3 1167 ((b3pairs.drop 272).take 17)).toArray 17
noncomputable def h67s4 (P : Params) : Obj := dO (entsAt3 1218 ((b3pairs.drop 289).take 17)).toArray 17
noncomputable def h68s4 (P : Params) : Obj := dO (entsAt3 1269 ((b3pairs.drop 306).take 17)).toArray 17
noncomputable def h69s4 (P : Params) : Obj := dO (entsAt3 1320 ((b3pairs.drop 323).take 17)).toArray 17
noncomputable def h70s4 (P : Params) : Obj := dO (entsAt3 1371 ((b3pairs.drop 340).take 17)).toArray 17
noncomputable def h71s4 (P : Params) : Obj := dO (entsAt3 1422 ((b3pairs.drop 357).take 17)).toArray 17
noncomputable def h72s4 (P : Params) : Obj := dO (entsAt3 1473 ((b3pairs.drop 374).take 17)).toArray 17
noncomputable def h73s4 (P : Params) : Obj := dO (entsAt3 1524 ((b3pairs.drop 391).take 17)).toArray 17
noncomputable def h74s4 (P : Params) : Obj := dO (entsAt3 1575 ((b3pairs.drop 408).take 17)).toArray 17
noncomputable def h75s4 (P : Params) : Obj := dO (entsAt3 1626 ((b3pairs.drop 425).take 17)).toArray 17
noncomputable def h76s4 (P : Params) : Obj := dO (entsAt3 1677 ((b3pairs.drop 442).take 17)).toArray 17
noncomputable def h77s4 (P : Params) : Obj := dO (entsAt3 1728 ((b3pairs.drop 459).take 17)).toArray 17
noncomputable def h78s4 (P : Params) : Obj := dO (entsAt3 1779 ((b3pairs.drop 476).take 17)).toArray 17
noncomputable def h79s4 (P : Params) : Obj := dO (entsAt3 1830 ((b3pairs.drop 493).take 17)).toArray 17
noncomputable def h80s4 (P : Params) : Obj := dO (entsAt3 1881 ((b3pairs.drop 510).take 17)).toArray 17
noncomputable def h81s4 (P : Params) : Obj := dO (entsAt3 1932 ((b3pairs.drop 527).take 17)).toArray 17
noncomputable def h82s4 (P : Params) : Obj := dO (entsAt3 1983 ((b3pairs.drop 544).take 17)).toArray 17
noncomputable def h83s4 (P : Params) : Obj := dO (entsAt3 2034 ((b3pairs.drop 561).take 17)).toArray 17
noncomputable def h84s4 (P : Params) : Obj := dO (entsAt3 2085 ((b3pairs.drop 578).take 17)).toArray 17
noncomputable def h85s4 (P : Params) : Obj := dO (entsAt3 2136 ((b3pairs.drop 595).take 17)).toArray 17
noncomputable def h86s4 (P : Params) : Obj := dO (entsAt3 2187 ((b3pairs.drop 612).take 17)).toArray 17
noncomputable def h87s4 (P : Params) : Obj := dO (entsAt3 2238 ((b3pairs.drop 629).take 17)).toArray 17
noncomputable def h88s4 (P : Params) : Obj := dO (entsAt2 2289 (b3pairs.drop 646)).toArray 4
noncomputable def T4 (P : Params) : BT := treeOf [h0se P, h1se P, h2se P, h3s4 P, h4se P, h5se P, h6se P, h7se P, h8se P, h9se P, h10se P, h11s0 P, h12se P, h13se P, h14se P, h15se P, h16se P, h17se P, h18se P, h19se P, h20se P, h21se P, h22se P, h23se P, h24se P, h25se P, h26se P, h27se P, h28sa P, h29s3 P, h30sa P, h31sa P, h32s2 P, h33s2 P, h34s2 P, h35s2 P, h36s2 P, h37s2 P, h38s2 P, h39s2 P, h40s2 P, h41s2 P, h42s2 P, h43s3 P, h44s3 P, h45s3 P, h46s3 P, h47s3 P, h48s3 P, h49s3 P, h50s4 P, h51s4 P, h52s4 P, h53s4 P, h54s4 P, h55s4 P, h56s4 P, h57s4 P, h58s4 P, h59s4 P, h60s4 P, h61s4 P, h62s4 P, h63s4 P, h64s4 P, h65s4 P, h66s4 P, h67s4 P, h68s4 P, h69s4 P, h70s4 P, h71s4 P, h72s4 P, h73s4 P, h74s4 P, h75s4 P, h76s4 P, h77s4 P, h78s4 P, h79s4 P, h80s4 P, h81s4 P, h82s4 P, h83s4 P, h84s4 P, h85s4 P, h86s4 P, h87s4 P, h88s4 P]
noncomputable def h3s5 (P : Params) : Obj := ⟨(.type "dict"), none, (.dict #[⟨H P (S "__name__"), .str (S "__name__") 165, (.str (S "cpy313.stringprep") 282)⟩, ⟨H P (S "__doc__"), .str (S "__doc__") 166, .none⟩, ⟨H P (S "__package__"), .str (S "__package__") 167, .none⟩, ⟨H P (S "__loader__"), .str (S "__loader__") 168, (.builtin "__main__.__loader__#opaque")⟩, ⟨H P (S "__spec__"), .str (S "__spec__") 169, .none⟩, ⟨H P (S "__annotations__"), .str (S "__annotations__") 170, (.ref 6)⟩, ⟨H P (S "__builtins__"), .str (S "__builtins__") 171, (.ref 4)⟩, ⟨H P (S "__file__"), .str (S "__file__") 173, (.str (S "/claim/cut.py") 172)⟩, ⟨H P (S "__cached__"), .str (S "__cached__") 174, .none⟩, ⟨H P (S "_sre"), .str (S "_sre") 275, (.ref 12)⟩, ⟨H P (S "b1_set"), .str (S "b1_set") 343, (.ref 39)⟩, ⟨H P (S "in_table_b1"), .str (S "in_table_b1") 350, (.ref 49)⟩, ⟨H P (S "b3_exceptions"), .str (S "b3_exceptions") 2301, (.ref 50)⟩, ⟨H P (S "map_table_b3"), .str (S "map_table_b3") 2309, (.ref 95)⟩] 14), #[]⟩
noncomputable def h29s5 (P : Params) : Obj := ⟨.none, none, (.fields #[(.int 4 0), (.int 0 0), (.ref 48), (.int 7 0), (.int 0 0), (.ref 94)]), #[]⟩
noncomputable def h89s5 (P : Params) : Obj := ⟨(.type "tuple"), none, (.seq #[] 0), #[]⟩
noncomputable def h90s5 (P : Params) : Obj := ⟨.none, none, (.fields #[]), #[]⟩
noncomputable def h91s5 (P : Params) : Obj := ⟨(.type "tuple"), none, (.seq #[(.str (S "code") 2305), (.str (S "r") 2306)] 0), #[]⟩
noncomputable def h92s5 (P : Params) : Obj := ⟨(.type "tuple"), none, (.seq #[] 0), #[]⟩
noncomputable def h93s5 (P : Params) : Obj := ⟨.none, none, (.func { name := (S "map_table_b3"), qualname := (S "map_table_b3"), params := fpar5, body := .stmts fbody5, scope := fsco5, globals := 0, closure := [], defaults := .none, kwdefaults := .none, doc := .none, pyModule := .none, annotations := none, code := .none, closureTuple := .none, builtins := 0 }), #[]⟩
noncomputable def h94s5 (P : Params) : Obj := ⟨(.type "code"), none, (.fields #[(.str (S "map_table_b3") 2302), (.str (S "map_table_b3") 2303), (.str (S "/claim/cut.py") 2304), (.int 7 0), (.int 1 0), (.int 0 0), (.int 0 0), (.int 3 0), (.ref 89), (.bool true), (.int 276 0), (.ref 90), .none, (.ref 91), (.ref 92), (.ref 93), (.int 2307 0), (.int 7 0), (.str (S "/claim/cut.py") 2308)]), #[]⟩
noncomputable def h95s5 (P : Params) : Obj := ⟨(.type "function"), none, (.func { name := (S "map_table_b3"), qualname := (S "map_table_b3"), params := fpar5, body := .stmts fbody5, scope := fsco5, globals := 3, closure := [], defaults := .none, kwdefaults := .none, doc := .none, pyModule := (.str (S "cpy313.stringprep") 282), annotations := none, code := (.ref 94), closureTuple := .none, builtins := 0 }), #[]⟩
noncomputable def T5 (P : Params) : BT := treeOf [h0se P, h1se P, h2se P, h3s5 P, h4se P, h5se P, h6se P, h7se P, h8se P, h9se P, h10se P, h11s0 P, h12se P, h13se P, h14se P, h15se P, h16se P, h17se P, h18se P, h19se P, h20se P, h21se P, h22se P, h23se P, h24se P, h25se P, h26se P, h27se P, h28sa P, h29s5 P, h30sa P, h31sa P, h32s2 P, h33s2 P, h34s2 P, h35s2 P, h36s2 P, h37s2 P, h38s2 P, h39s2 P, h40s2 P, h41s2 P, h42s2 P, h43s3 P, h44s3 P, h45s3 P, h46s3 P, h47s3 P, h48s3 P, h49s3 P, h50s4 P, h51s4 P, h52s4 P, h53s4 P, h54s4 P, h55s4 P, h56s4 P, h57s4 P, h58s4 P, h59s4 P, h60s4 P, h61s4 P, h62s4 P, h63s4 P, h64s4 P, h65s4 P, h66s4 P, h67s4 P, h68s4 P, h69s4 P, h70s4 P, h71s4 P, h72s4 P, h73s4 P, h74s4 P, h75s4 P, h76s4 P, h77s4 P, h78s4 P, h79s4 P, h80s4 P, h81s4 P, h82s4 P, h83s4 P, h84s4 P, h85s4 P, h86s4 P, h87s4 P, h88s4 P, h89s5 P, h90s5 P, h91s5 P, h92s5 P, h93s5 P, h94s5 P, h95s5 P]
noncomputable def h3s6 (P : Params) : Obj := ⟨(.type "dict"), none, (.dict #[⟨H P (S "__name__"), .str (S "__name__") 165, (.str (S "cpy313.ftplib") 2310)⟩, ⟨H P (S "__doc__"), .str (S "__doc__") 166, .none⟩, ⟨H P (S "__package__"), .str (S "__package__") 167, .none⟩, ⟨H P (S "__loader__"), .str (S "__loader__") 168, (.builtin "__main__.__loader__#opaque")⟩, ⟨H P (S "__spec__"), .str (S "__spec__") 169, .none⟩, ⟨H P (S "__annotations__"), .str (S "__annotations__") 170, (.ref 6)⟩, ⟨H P (S "__builtins__"), .str (S "__builtins__") 171, (.ref 4)⟩, ⟨H P (S "__file__"), .str (S "__file__") 173, (.str (S "/claim/cut.py") 172)⟩, ⟨H P (S "__cached__"), .str (S "__cached__") 174, .none⟩, ⟨H P (S "_sre"), .str (S "_sre") 275, (.ref 12)⟩, ⟨H P (S "b1_set"), .str (S "b1_set") 343, (.ref 39)⟩, ⟨H P (S "in_table_b1"), .str (S "in_table_b1") 350, (.ref 49)⟩, ⟨H P (S "b3_exceptions"), .str (S "b3_exceptions") 2301, (.ref 50)⟩, ⟨H P (S "map_table_b3"), .str (S "map_table_b3") 2309, (.ref 95)⟩] 14), #[]⟩
noncomputable def T6 (P : Params) : BT := treeOf [h0se P, h1se P, h2se P, h3s6 P, h4se P, h5se P, h6se P, h7se P, h8se P, h9se P, h10se P, h11s0 P, h12se P, h13se P, h14se P, h15se P, h16se P, h17se P, h18se P, h19se P, h20se P, h21se P, h22se P, h23se P, h24se P, h25se P, h26se P, h27se P, h28sa P, h29s5 P, h30sa P, h31sa P, h32s2 P, h33s2 P, h34s2 P, h35s2 P, h36s2 P, h37s2 P, h38s2 P, h39s2 P, h40s2 P, h41s2 P, h42s2 P, h43s3 P, h44s3 P, h45s3 P, h46s3 P, h47s3 P, h48s3 P, h49s3 P, h50s4 P, h51s4 P, h52s4 P, h53s4 P, h54s4 P, h55s4 P, h56s4 P, h57s4 P, h58s4 P, h59s4 P, h60s4 P, h61s4 P, h62s4 P, h63s4 P, h64s4 P, h65s4 P, h66s4 P, h67s4 P, h68s4 P, h69s4 P, h70s4 P, h71s4 P, h72s4 P, h73s4 P, h74s4 P, h75s4 P, h76s4 P, h77s4 P, h78s4 P, h79s4 P, h80s4 P, h81s4 P, h82s4 P, h83s4 P, h84s4 P, h85s4 P, h86s4 P, h87s4 P, h88s4 P, h89s5 P, h90s5 P, h91s5 P, h92s5 P, h93s5 P, h94s5 P, h95s5 P]
noncomputable def h2s7 (P : Params) : Obj := ⟨.none, none, (.dict #[⟨H P (S "\x69mport.loaded._sre"), .str (S "\x69mport.loaded._sre") 183, (.bool true)⟩, ⟨H P (S "class._frozen_importlib.BuiltinImporter"), .str (S "class._frozen_importlib.BuiltinImporter") 185, (.ref 14)⟩, ⟨H P (S "watched.\x69mport"), .str (S "watched.\x69mport") 206, (.ref 18)⟩, ⟨H P (S "class._frozen_importlib.ModuleSpec"), .str (S "class._frozen_importlib.ModuleSpec") 216, (.ref 22)⟩, ⟨H P (S "sys.modules.booked-epoch"), .str (S "sys.modules.booked-epoch") 245, (.int 3 0)⟩, ⟨H P (S "\x69mport.later-laid._sre"), .str (S "\x69mport.later-laid._sre") 270, (.bool true)⟩, ⟨H P (S "watched.library"), .str (S "watched.library") 272, (.ref 27)⟩, ⟨H P (S "watched.library-objects"), .str (S "watched.library-objects") 0, (.str (PySem.Str.mk #[12]) 0)⟩, ⟨H P (S "watched.library-deep._sre"), .str (S "watched.library-deep._sre") 273, (.str (PySem.Str.mk #[4, 0, 0, 11, 4, 0, 0, 11, 4, 0, 0, 3, 4, 0, 0, 11, 8, 4, 100, 105, 99, 116, 2]) 0)⟩, ⟨H P (S "type.__subclasses__.Exception.0"), .str (S "type.__subclasses__.Exception.0") 2328, (.int 105 0)⟩, ⟨H P (S "type.__subclasses__.Exception.n"), .str (S "type.__subclasses__.Exception.n") 2329, (.int 1 0)⟩] 11), #[]⟩
noncomputable def h3s7 (P : Params) : Obj := ⟨(.type "dict"), none, (.dict #[⟨H P (S "__name__"), .str (S "__name__") 165, (.str (S "cpy313.ftplib") 2310)⟩, ⟨H P (S "__doc__"), .str (S "__doc__") 166, .none⟩, ⟨H P (S "__package__"), .str (S "__package__") 167, .none⟩, ⟨H P (S "__loader__"), .str (S "__loader__") 168, (.builtin "__main__.__loader__#opaque")⟩, ⟨H P (S "__spec__"), .str (S "__spec__") 169, .none⟩, ⟨H P (S "__annotations__"), .str (S "__annotations__") 170, (.ref 6)⟩, ⟨H P (S "__builtins__"), .str (S "__builtins__") 171, (.ref 4)⟩, ⟨H P (S "__file__"), .str (S "__file__") 173, (.str (S "/claim/cut.py") 172)⟩, ⟨H P (S "__cached__"), .str (S "__cached__") 174, .none⟩, ⟨H P (S "_sre"), .str (S "_sre") 275, (.ref 12)⟩, ⟨H P (S "b1_set"), .str (S "b1_set") 343, (.ref 39)⟩, ⟨H P (S "in_table_b1"), .str (S "in_table_b1") 350, (.ref 49)⟩, ⟨H P (S "b3_exceptions"), .str (S "b3_exceptions") 2301, (.ref 50)⟩, ⟨H P (S "map_table_b3"), .str (S "map_table_b3") 2309, (.ref 95)⟩, ⟨H P (S "Error"), .str (S "Error") 2331, (.ref 105)⟩] 15), #[]⟩
noncomputable def h29s7 (P : Params) : Obj := ⟨.none, none, (.fields #[(.int 4 0), (.int 0 0), (.ref 48), (.int 7 0), (.int 0 0), (.ref 94), (.int 13 0), (.int 0 0), (.ref 101)]), #[]⟩
noncomputable def h96s7 (P : Params) : Obj := ⟨(.type "tuple"), none, (.seq #[(.type "Exception")] 0), #[]⟩
noncomputable def h97s7 (P : Params) : Obj := ⟨(.type "builtin_function_or_method"), none, (.fields #[(.builtin "type.__prepare__"), (.type "type")]), #[]⟩
noncomputable def h98s7 (P : Params) : Obj := ⟨(.type "dict"), none, (.dict #[⟨H P (S "__module__"), .str (S "__module__") 2319, (.str (S "cpy313.ftplib") 2310)⟩, ⟨H P (S "__qualname__"), .str (S "__qualname__") 2321, (.str (S "Error") 2320)⟩, ⟨H P (S "__firstlineno__"), .str (S "__firstlineno__") 2323, (.int 13 2322)⟩, ⟨H P (S "__static_attributes__"), .str (S "__static_attributes__") 2324, (.ref 103)⟩] 4), #[]⟩
noncomputable def h99s7 (P : Params) : Obj := ⟨(.type "tuple"), none, (.seq #[] 0), #[]⟩
noncomputable def h100s7 (P : Params) : Obj := ⟨.none, none, (.fields #[]), #[]⟩
noncomputable def h101s7 (P : Params) : Obj := ⟨(.type "code"), none, (.fields #[(.str (S "Error") 2314), (.str (S "Error") 2315), (.str (S "/claim/cut.py") 2316), (.int 13 0), (.int 0 0), (.int 0 0), (.int 0 0), (.int 0 0), (.ref 99), (.bool false), (.int 276 0), (.ref 100), .none, .none, .none, .none, (.int 2317 0), (.int 13 0), (.str (S "/claim/cut.py") 2318)]), #[]⟩
noncomputable def h102s7 (P : Params) : Obj := ⟨(.type "frame"), none, .plain, #[(some (.ref 101)), (some (.ref 3)), (some (.ref 98)), none, (some (.str (S "cpy313.ftplib") 2310)), none, (some (.ref 0))]⟩
noncomputable def h103s7 (P : Params) : Obj := ⟨(.type "tuple"), none, (.seq #[] 0), #[]⟩
noncomputable def h104s7 (P : Params) : Obj := ⟨(.type "dict"), none, (.dict #[⟨H P (S "__module__"), .str (S "__module__") 2319, (.str (S "cpy313.ftplib") 2310)⟩, ⟨H P (S "__firstlineno__"), .str (S "__firstlineno__") 2323, (.int 13 2322)⟩, ⟨H P (S "__static_attributes__"), .str (S "__static_attributes__") 2324, (.ref 103)⟩, ⟨H P (S "__weakref__"), .str (S "__weakref__") 2326, (.ref 106)⟩, ⟨H P (S "__doc__"), .str (S "__doc__") 2327, .none⟩] 3), #[]⟩
noncomputable def h105s7 (P : Params) : Obj := ⟨(.type "type"), none, (.cls { name := (S "Error"), bases := [(.type "Exception")], mro := [(.ref 105), (.type "Exception"), (.type "BaseException"), (.type "object")], ns := 104, qualname := (S "Error"), hasDict := true, slotNames := [], subclasses := [], abstract := false, collection := none, hasDel := false }), #[(some (.ref 96)), none, (some (.str (S "Error") 2312)), (some (.str (S "Error") 2320)), (some (.builtin "Exception.__new__")), (some (.bool true))]⟩
noncomputable def h106s7 (P : Params) : Obj := ⟨(.type "getset_descriptor"), none, (.fields #[(.str (S "__weakref__") 2325), (.ref 105), (.builtin "ExceptionGroup.__weakref__"), .none]), #[]⟩
noncomputable def h107s7 (P : Params) : Obj := ⟨(.type "super"), none, (.fields #[(.ref 105), (.ref 105), (.ref 105)]), #[]⟩
noncomputable def h108s7 (P : Params) : Obj := ⟨(.type "builtin_function_or_method"), none, (.fields #[(.builtin "object.__init_subclass__"), (.ref 105)]), #[]⟩
noncomputable def T7 (P : Params) : BT := treeOf [h0se P, h1se P, h2s7 P, h3s7 P, h4se P, h5se P, h6se P, h7se P, h8se P, h9se P, h10se P, h11s0 P, h12se P, h13se P, h14se P, h15se P, h16se P, h17se P, h18se P, h19se P, h20se P, h21se P, h22se P, h23se P, h24se P, h25se P, h26se P, h27se P, h28sa P, h29s7 P, h30sa P, h31sa P, h32s2 P, h33s2 P, h34s2 P, h35s2 P, h36s2 P, h37s2 P, h38s2 P, h39s2 P, h40s2 P, h41s2 P, h42s2 P, h43s3 P, h44s3 P, h45s3 P, h46s3 P, h47s3 P, h48s3 P, h49s3 P, h50s4 P, h51s4 P, h52s4 P, h53s4 P, h54s4 P, h55s4 P, h56s4 P, h57s4 P, h58s4 P, h59s4 P, h60s4 P, h61s4 P, h62s4 P, h63s4 P, h64s4 P, h65s4 P, h66s4 P, h67s4 P, h68s4 P, h69s4 P, h70s4 P, h71s4 P, h72s4 P, h73s4 P, h74s4 P, h75s4 P, h76s4 P, h77s4 P, h78s4 P, h79s4 P, h80s4 P, h81s4 P, h82s4 P, h83s4 P, h84s4 P, h85s4 P, h86s4 P, h87s4 P, h88s4 P, h89s5 P, h90s5 P, h91s5 P, h92s5 P, h93s5 P, h94s5 P, h95s5 P, h96s7 P, h97s7 P, h98s7 P, h99s7 P, h100s7 P, h101s7 P, h102s7 P, h103s7 P, h104s7 P, h105s7 P, h106s7 P, h107s7 P, h108s7 P]
noncomputable def h3s8 (P : Params) : Obj := ⟨(.type "dict"), none, (.dict #[⟨H P (S "__name__"), .str (S "__name__") 165, (.str (S "cpy313.ftplib") 2310)⟩, ⟨H P (S "__doc__"), .str (S "__doc__") 166, .none⟩, ⟨H P (S "__package__"), .str (S "__package__") 167, .none⟩, ⟨H P (S "__loader__"), .str (S "__loader__") 168, (.builtin "__main__.__loader__#opaque")⟩, ⟨H P (S "__spec__"), .str (S "__spec__") 169, .none⟩, ⟨H P (S "__annotations__"), .str (S "__annotations__") 170, (.ref 6)⟩, ⟨H P (S "__builtins__"), .str (S "__builtins__") 171, (.ref 4)⟩, ⟨H P (S "__file__"), .str (S "__file__") 173, (.str (S "/claim/cut.py") 172)⟩, ⟨H P (S "__cached__"), .str (S "__cached__") 174, .none⟩, ⟨H P (S "_sre"), .str (S "_sre") 275, (.ref 12)⟩, ⟨H P (S "b1_set"), .str (S "b1_set") 343, (.ref 39)⟩, ⟨H P (S "in_table_b1"), .str (S "in_table_b1") 350, (.ref 49)⟩, ⟨H P (S "b3_exceptions"), .str (S "b3_exceptions") 2301, (.ref 50)⟩, ⟨H P (S "map_table_b3"), .str (S "map_table_b3") 2309, (.ref 95)⟩, ⟨H P (S "Error"), .str (S "Error") 2331, (.ref 105)⟩, ⟨H P (S "error_reply"), .str (S "error_reply") 2347, (.ref 118)⟩] 16), #[]⟩
noncomputable def h29s8 (P : Params) : Obj := ⟨.none, none, (.fields #[(.int 4 0), (.int 0 0), (.ref 48), (.int 7 0), (.int 0 0), (.ref 94), (.int 13 0), (.int 0 0), (.ref 101), (.int 15 0), (.int 0 0), (.ref 114)]), #[]⟩
noncomputable def h105s8 (P : Params) : Obj := ⟨(.type "type"), none, (.cls { name := (S "Error"), bases := [(.type "Exception")], mro := [(.ref 105), (.type "Exception"), (.type "BaseException"), (.type "object")], ns := 104, qualname := (S "Error"), hasDict := true, slotNames := [], subclasses := [(.ref 118)], abstract := false, collection := none, hasDel := false }), #[(some (.ref 96)), none, (some (.str (S "Error") 2312)), (some (.str (S "Error") 2320)), (some (.builtin "Exception.__new__")), (some (.bool true))]⟩
noncomputable def h109s8 (P : Params) : Obj := ⟨(.type "tuple"), none, (.seq #[(.ref 105)] 0), #[]⟩
noncomputable def h110s8 (P : Params) : Obj := ⟨(.type "builtin_function_or_method"), none, (.fields #[(.builtin "type.__prepare__"), (.type "type")]), #[]⟩
noncomputable def h111s8 (P : Params) : Obj := ⟨(.type "dict"), none, (.dict #[⟨H P (S "__module__"), .str (S "__module__") 2339, (.str (S "cpy313.ftplib") 2310)⟩, ⟨H P (S "__qualname__"), .str (S "__qualname__") 2341, (.str (S "error_reply") 2340)⟩, ⟨H P (S "__firstlineno__"), .str (S "__firstlineno__") 2343, (.int 15 2342)⟩, ⟨H P (S "__static_attributes__"), .str (S "__static_attributes__") 2344, (.ref 116)⟩] 4), #[]⟩
noncomputable def h112s8 (P : Params) : Obj := ⟨(.type "tuple"), none, (.seq #[] 0), #[]⟩
noncomputable def h113s8 (P : Params) : Obj := ⟨.none, none, (.fields #[]), #[]⟩
noncomputable def h114s8 (P : Params) : Obj := ⟨(.type "code"), none, (.fields #[(.str (S "error_reply") 2334), (.str (S "error_reply") 2335), (.str (S "/claim/cut.py") 2336), (.int 15 0), (.int 0 0), (.int 0 0), (.int 0 0), (.int 0 0), (.ref 112), (.bool false), (.int 276 0), (.ref 113), .none, .none, .none, .none, (.int 2337 0), (.int 15 0), (.str (S "/claim/cut.py") 2338)]), #[]⟩
noncomputable def h115s8 (P : Params) : Obj := ⟨(.type "frame"), none, .plain, #[(some (.ref 114)), (some (.ref 3)), (some (.ref 111)), none, (some (.str (S "cpy313.ftplib") 2310)), none, (some (.ref 0))]⟩
noncomputable def h116s8 (P : Params) : Obj := ⟨(.type "tuple"), none, (.seq #[] 0), #[]⟩
noncomputable def h117s8 (P : Params) : Obj := ⟨(.type "dict"), none, (.dict #[⟨H P (S "__module__"), .str (S "__module__") 2339, (.str (S "cpy313.ftplib") 2310)⟩, ⟨H P (S "__firstlineno__"), .str (S "__firstlineno__") 2343, (.int 15 2342)⟩, ⟨H P (S "__static_attributes__"), .str (S "__static_attributes__") 2344, (.ref 116)⟩, ⟨H P (S "__doc__"), .str (S "__doc__") 2345, .none⟩] 2), #[]⟩
noncomputable def h118s8 (P : Params) : Obj := ⟨(.type "type"), none, (.cls { name := (S "error_reply"), bases := [(.ref 105)], mro := [(.ref 118), (.ref 105), (.type "Exception"), (.type "BaseException"), (.type "object")], ns := 117, qualname := (S "error_reply"), hasDict := true, slotNames := [], subclasses := [], abstract := false, collection := none, hasDel := false }), #[(some (.ref 109)), none, (some (.str (S "error_reply") 2332)), (some (.str (S "error_reply") 2340)), (some (.builtin "Exception.__new__")), (some (.bool true))]⟩
noncomputable def h119s8 (P : Params) : Obj := ⟨(.type "super"), none, (.fields #[(.ref 118), (.ref 118), (.ref 118)]), #[]⟩
noncomputable def h120s8 (P : Params) : Obj := ⟨(.type "builtin_function_or_method"), none, (.fields #[(.builtin "object.__init_subclass__"), (.ref 118)]), #[]⟩
noncomputable def T8 (P : Params) : BT := treeOf [h0se P, h1se P, h2s7 P, h3s8 P, h4se P, h5se P, h6se P, h7se P, h8se P, h9se P, h10se P, h11s0 P, h12se P, h13se P, h14se P, h15se P, h16se P, h17se P, h18se P, h19se P, h20se P, h21se P, h22se P, h23se P, h24se P, h25se P, h26se P, h27se P, h28sa P, h29s8 P, h30sa P, h31sa P, h32s2 P, h33s2 P, h34s2 P, h35s2 P, h36s2 P, h37s2 P, h38s2 P, h39s2 P, h40s2 P, h41s2 P, h42s2 P, h43s3 P, h44s3 P, h45s3 P, h46s3 P, h47s3 P, h48s3 P, h49s3 P, h50s4 P, h51s4 P, h52s4 P, h53s4 P, h54s4 P, h55s4 P, h56s4 P, h57s4 P, h58s4 P, h59s4 P, h60s4 P, h61s4 P, h62s4 P, h63s4 P, h64s4 P, h65s4 P, h66s4 P, h67s4 P, h68s4 P, h69s4 P, h70s4 P, h71s4 P, h72s4 P, h73s4 P, h74s4 P, h75s4 P, h76s4 P, h77s4 P, h78s4 P, h79s4 P, h80s4 P, h81s4 P, h82s4 P, h83s4 P, h84s4 P, h85s4 P, h86s4 P, h87s4 P, h88s4 P, h89s5 P, h90s5 P, h91s5 P, h92s5 P, h93s5 P, h94s5 P, h95s5 P, h96s7 P, h97s7 P, h98s7 P, h99s7 P, h100s7 P, h101s7 P, h102s7 P, h103s7 P, h104s7 P, h105s8 P, h106s7 P, h107s7 P, h108s7 P, h109s8 P, h110s8 P, h111s8 P, h112s8 P, h113s8 P, h114s8 P, h115s8 P, h116s8 P, h117s8 P, h118s8 P, h119s8 P, h120s8 P]
noncomputable def h3s9 (P : Params) : Obj := ⟨(.type "dict"), none, (.dict #[⟨H P (S "__name__"), .str (S "__name__") 165, (.str (S "cpy313.ftplib") 2310)⟩, ⟨H P (S "__doc__"), .str (S "__doc__") 166, .none⟩, ⟨H P (S "__package__"), .str (S "__package__") 167, .none⟩, ⟨H P (S "__loader__"), .str (S "__loader__") 168, (.builtin "__main__.__loader__#opaque")⟩, ⟨H P (S "__spec__"), .str (S "__spec__") 169, .none⟩, ⟨H P (S "__annotations__"), .str (S "__annotations__") 170, (.ref 6)⟩, ⟨H P (S "__builtins__"), .str (S "__builtins__") 171, (.ref 4)⟩, ⟨H P (S "__file__"), .str (S "__file__") 173, (.str (S "/claim/cut.py") 172)⟩, ⟨H P (S "__cached__"), .str (S "__cached__") 174, .none⟩, ⟨H P (S "_sre"), .str (S "_sre") 275, (.ref 12)⟩, ⟨H P (S "b1_set"), .str (S "b1_set") 343, (.ref 39)⟩, ⟨H P (S "in_table_b1"), .str (S "in_table_b1") 350, (.ref 49)⟩, ⟨H P (S "b3_exceptions"), .str (S "b3_exceptions") 2301, (.ref 50)⟩, ⟨H P (S "map_table_b3"), .str (S "map_table_b3") 2309, (.ref 95)⟩, ⟨H P (S "Error"), .str (S "Error") 2331, (.ref 105)⟩, ⟨H P (S "error_reply"), .str (S "error_reply") 2347, (.ref 118)⟩, ⟨H P (S "parse257"), .str (S "parse257") 2358, (.ref 127)⟩] 17), #[]⟩
noncomputable def h29s9 (P : Params) : Obj := ⟨.none, none, (.fields #[(.int 4 0), (.int 0 0), (.ref 48), (.int 7 0), (.int 0 0), (.ref 94), (.int 13 0), (.int 0 0), (.ref 101), (.int 15 0), (.int 0 0), (.ref 114), (.int 17 0), (.int 0 0), (.ref 126)]), #[]⟩
noncomputable def h121s9 (P : Params) : Obj := ⟨(.type "tuple"), none, (.seq #[] 0), #[]⟩
noncomputable def h122s9 (P : Params) : Obj := ⟨.none, none, (.fields #[]), #[]⟩
noncomputable def h123s9 (P : Params) : Obj := ⟨(.type "tuple"), none, (.seq #[(.str (S "resp") 2351), (.str (S "dirname") 2352), (.str (S "i") 2353), (.str (S "n") 2354), (.str (S "c") 2355)] 0), #[]⟩
noncomputable def h124s9 (P : Params) : Obj := ⟨(.type "tuple"), none, (.seq #[] 0), #[]⟩
noncomputable def h125s9 (P : Params) : Obj := ⟨.none, none, (.func { name := (S "parse257"), qualname := (S "parse257"), params := fpar9, body := .stmts fbody9, scope := fsco9, globals := 0, closure := [], defaults := .none, kwdefaults := .none, doc := .none, pyModule := .none, annotations := none, code := .none, closureTuple := .none, builtins := 0 }), #[]⟩
noncomputable def h126s9 (P : Params) : Obj := ⟨(.type "code"), none, (.fields #[(.str (S "parse257") 2348), (.str (S "parse257") 2349), (.str (S "/claim/cut.py") 2350), (.int 17 0), (.int 1 0), (.int 0 0), (.int 0 0), (.int 3 0), (.ref 121), (.bool true), (.int 276 0), (.ref 122), .none, (.ref 123), (.ref 124), (.ref 125), (.int 2356 0), (.int 17 0), (.str (S "/claim/cut.py") 2357)]), #[]⟩
noncomputable def h127s9 (P : Params) : Obj := ⟨(.type "function"), none, (.func { name := (S "parse257"), qualname := (S "parse257"), params := fpar9, body := .stmts fbody9, scope := fsco9, globals := 3, closure := [], defaults := .none, kwdefaults := .none, doc := .none, pyModule := (.str (S "cpy313.ftplib") 2310), annotations := none, code := (.ref 126), closureTuple := .none, builtins := 0 }), #[]⟩
noncomputable def T9 (P : Params) : BT := treeOf [h0se P, h1se P, h2s7 P, h3s9 P, h4se P, h5se P, h6se P, h7se P, h8se P, h9se P, h10se P, h11s0 P, h12se P, h13se P, h14se P, h15se P, h16se P, h17se P, h18se P, h19se P, h20se P, h21se P, h22se P, h23se P, h24se P, h25se P, h26se P, h27se P, h28sa P, h29s9 P, h30sa P, h31sa P, h32s2 P, h33s2 P, h34s2 P, h35s2 P, h36s2 P, h37s2 P, h38s2 P, h39s2 P, h40s2 P, h41s2 P, h42s2 P, h43s3 P, h44s3 P, h45s3 P, h46s3 P, h47s3 P, h48s3 P, h49s3 P, h50s4 P, h51s4 P, h52s4 P, h53s4 P, h54s4 P, h55s4 P, h56s4 P, h57s4 P, h58s4 P, h59s4 P, h60s4 P, h61s4 P, h62s4 P, h63s4 P, h64s4 P, h65s4 P, h66s4 P, h67s4 P, h68s4 P, h69s4 P, h70s4 P, h71s4 P, h72s4 P, h73s4 P, h74s4 P, h75s4 P, h76s4 P, h77s4 P, h78s4 P, h79s4 P, h80s4 P, h81s4 P, h82s4 P, h83s4 P, h84s4 P, h85s4 P, h86s4 P, h87s4 P, h88s4 P, h89s5 P, h90s5 P, h91s5 P, h92s5 P, h93s5 P, h94s5 P, h95s5 P, h96s7 P, h97s7 P, h98s7 P, h99s7 P, h100s7 P, h101s7 P, h102s7 P, h103s7 P, h104s7 P, h105s8 P, h106s7 P, h107s7 P, h108s7 P, h109s8 P, h110s8 P, h111s8 P, h112s8 P, h113s8 P, h114s8 P, h115s8 P, h116s8 P, h117s8 P, h118s8 P, h119s8 P, h120s8 P, h121s9 P, h122s9 P, h123s9 P, h124s9 P, h125s9 P, h126s9 P, h127s9 P]
noncomputable def h3s10 (P : Params) : Obj := ⟨(.type "dict"), none, (.dict #[⟨H P (S "__name__"), .str (S "__name__") 165, (.str (S "cpy313.smtplib") 2359)⟩, ⟨H P (S "__doc__"), .str (S "__doc__") 166, .none⟩, ⟨H P (S "__package__"), .str (S "__package__") 167, .none⟩, ⟨H P (S "__loader__"), .str (S "__loader__") 168, (.builtin "__main__.__loader__#opaque")⟩, ⟨H P (S "__spec__"), .str (S "__spec__") 169, .none⟩, ⟨H P (S "__annotations__"), .str (S "__annotations__") 170, (.ref 6)⟩, ⟨H P (S "__builtins__"), .str (S "__builtins__") 171, (.ref 4)⟩, ⟨H P (S "__file__"), .str (S "__file__") 173, (.str (S "/claim/cut.py") 172)⟩, ⟨H P (S "__cached__"), .str (S "__cached__") 174, .none⟩, ⟨H P (S "_sre"), .str (S "_sre") 275, (.ref 12)⟩, ⟨H P (S "b1_set"), .str (S "b1_set") 343, (.ref 39)⟩, ⟨H P (S "in_table_b1"), .str (S "in_table_b1") 350, (.ref 49)⟩, ⟨H P (S "b3_exceptions"), .str (S "b3_exceptions") 2301, (.ref 50)⟩, ⟨H P (S "map_table_b3"), .str (S "map_table_b3") 2309, (.ref 95)⟩, ⟨H P (S "Error"), .str (S "Error") 2331, (.ref 105)⟩, ⟨H P (S "error_reply"), .str (S "error_reply") 2347, (.ref 118)⟩, ⟨H P (S "parse257"), .str (S "parse257") 2358, (.ref 127)⟩] 17), #[]⟩
noncomputable def T10 (P : Params) : BT := treeOf [h0se P, h1se P, h2s7 P, h3s10 P, h4se P, h5se P, h6se P, h7se P, h8se P, h9se P, h10se P, h11s0 P, h12se P, h13se P, h14se P, h15se P, h16se P, h17se P, h18se P, h19se P, h20se P, h21se P, h22se P, h23se P, h24se P, h25se P, h26se P, h27se P, h28sa P, h29s9 P, h30sa P, h31sa P, h32s2 P, h33s2 P, h34s2 P, h35s2 P, h36s2 P, h37s2 P, h38s2 P, h39s2 P, h40s2 P, h41s2 P, h42s2 P, h43s3 P, h44s3 P, h45s3 P, h46s3 P, h47s3 P, h48s3 P, h49s3 P, h50s4 P, h51s4 P, h52s4 P, h53s4 P, h54s4 P, h55s4 P, h56s4 P, h57s4 P, h58s4 P, h59s4 P, h60s4 P, h61s4 P, h62s4 P, h63s4 P, h64s4 P, h65s4 P, h66s4 P, h67s4 P, h68s4 P, h69s4 P, h70s4 P, h71s4 P, h72s4 P, h73s4 P, h74s4 P, h75s4 P, h76s4 P, h77s4 P, h78s4 P, h79s4 P, h80s4 P, h81s4 P, h82s4 P, h83s4 P, h84s4 P, h85s4 P, h86s4 P, h87s4 P, h88s4 P, h89s5 P, h90s5 P, h91s5 P, h92s5 P, h93s5 P, h94s5 P, h95s5 P, h96s7 P, h97s7 P, h98s7 P, h99s7 P, h100s7 P, h101s7 P, h102s7 P, h103s7 P, h104s7 P, h105s8 P, h106s7 P, h107s7 P, h108s7 P, h109s8 P, h110s8 P, h111s8 P, h112s8 P, h113s8 P, h114s8 P, h115s8 P, h116s8 P, h117s8 P, h118s8 P, h119s8 P, h120s8 P, h121s9 P, h122s9 P, h123s9 P, h124s9 P, h125s9 P, h126s9 P, h127s9 P]
noncomputable def h3s11 (P : Params) : Obj := ⟨(.type "dict"), none, (.dict #[⟨H P (S "__name__"), .str (S "__name__") 165, (.str (S "cpy313.smtplib") 2359)⟩, ⟨H P (S "__doc__"), .str (S "__doc__") 166, .none⟩, ⟨H P (S "__package__"), .str (S "__package__") 167, .none⟩, ⟨H P (S "__loader__"), .str (S "__loader__") 168, (.builtin "__main__.__loader__#opaque")⟩, ⟨H P (S "__spec__"), .str (S "__spec__") 169, .none⟩, ⟨H P (S "__annotations__"), .str (S "__annotations__") 170, (.ref 6)⟩, ⟨H P (S "__builtins__"), .str (S "__builtins__") 171, (.ref 4)⟩, ⟨H P (S "__file__"), .str (S "__file__") 173, (.str (S "/claim/cut.py") 172)⟩, ⟨H P (S "__cached__"), .str (S "__cached__") 174, .none⟩, ⟨H P (S "_sre"), .str (S "_sre") 275, (.ref 12)⟩, ⟨H P (S "b1_set"), .str (S "b1_set") 343, (.ref 39)⟩, ⟨H P (S "in_table_b1"), .str (S "in_table_b1") 350, (.ref 49)⟩, ⟨H P (S "b3_exceptions"), .str (S "b3_exceptions") 2301, (.ref 50)⟩, ⟨H P (S "map_table_b3"), .str (S "map_table_b3") 2309, (.ref 95)⟩, ⟨H P (S "Error"), .str (S "Error") 2331, (.ref 105)⟩, ⟨H P (S "error_reply"), .str (S "error_reply") 2347, (.ref 118)⟩, ⟨H P (S "parse257"), .str (S "parse257") 2358, (.ref 127)⟩, ⟨H P (S "_twin_re_1"), .str (S "_twin_re_1") 2376, (.ref 132)⟩] 18), #[]⟩
noncomputable def h128s11 (P : Params) : Obj := ⟨(.type "list"), none, (.seq #[(.int 14 2364), (.int 4 2365), (.int 0 2366), (.int 1 2367), (.int 1 2368), (.int 6 2369), (.int 1 2370), (.int 16 2371), (.int 46 2372), (.int 1 2373)] 0), #[]⟩
noncomputable def h129s11 (P : Params) : Obj := ⟨(.type "dict"), none, (.dict #[] 0), #[]⟩
noncomputable def h130s11 (P : Params) : Obj := ⟨(.type "tuple"), none, (.seq #[.none] 0), #[]⟩
noncomputable def h131s11 (P : Params) : Obj := ⟨(.type "tuple"), none, (.seq #[(.int 14 0), (.int 4 0), (.int 0 0), (.int 1 0), (.int 1 0), (.int 6 0), (.int 1 0), (.int 16 0), (.int 46 0), (.int 1 0)] 0), #[]⟩
noncomputable def h132s11 (P : Params) : Obj := ⟨(.type "re.Pattern"), none, (.fields #[(.str (PySem.Str.mk #[40, 63, 109, 41, 94, 92, 46]) 2362), (.int 40 2375), (.int 0 0), .none, .none, (.ref 131), (.int 0 0)]), #[]⟩
noncomputable def T11 (P : Params) : BT := treeOf [h0se P, h1se P, h2s7 P, h3s11 P, h4se P, h5se P, h6se P, h7se P, h8se P, h9se P, h10se P, h11s0 P, h12se P, h13se P, h14se P, h15se P, h16se P, h17se P, h18se P, h19se P, h20se P, h21se P, h22se P, h23se P, h24se P, h25se P, h26se P, h27se P, h28sa P, h29s9 P, h30sa P, h31sa P, h32s2 P, h33s2 P, h34s2 P, h35s2 P, h36s2 P, h37s2 P, h38s2 P, h39s2 P, h40s2 P, h41s2 P, h42s2 P, h43s3 P, h44s3 P, h45s3 P, h46s3 P, h47s3 P, h48s3 P, h49s3 P, h50s4 P, h51s4 P, h52s4 P, h53s4 P, h54s4 P, h55s4 P, h56s4 P, h57s4 P, h58s4 P, h59s4 P, h60s4 P, h61s4 P, h62s4 P, h63s4 P, h64s4 P, h65s4 P, h66s4 P, h67s4 P, h68s4 P, h69s4 P, h70s4 P, h71s4 P, h72s4 P, h73s4 P, h74s4 P, h75s4 P, h76s4 P, h77s4 P, h78s4 P, h79s4 P, h80s4 P, h81s4 P, h82s4 P, h83s4 P, h84s4 P, h85s4 P, h86s4 P, h87s4 P, h88s4 P, h89s5 P, h90s5 P, h91s5 P, h92s5 P, h93s5 P, h94s5 P, h95s5 P, h96s7 P, h97s7 P, h98s7 P, h99s7 P, h100s7 P, h101s7 P, h102s7 P, h103s7 P, h104s7 P, h105s8 P, h106s7 P, h107s7 P, h108s7 P, h109s8 P, h110s8 P, h111s8 P, h112s8 P, h113s8 P, h114s8 P, h115s8 P, h116s8 P, h117s8 P, h118s8 P, h119s8 P, h120s8 P, h121s9 P, h122s9 P, h123s9 P, h124s9 P, h125s9 P, h126s9 P, h127s9 P, h128s11 P, h129s11 P, h130s11 P, h131s11 P, h132s11 P]
noncomputable def h3s12 (P : Params) : Obj := ⟨(.type "dict"), none, (.dict #[⟨H P (S "__name__"), .str (S "__name__") 165, (.str (S "cpy313.smtplib") 2359)⟩, ⟨H P (S "__doc__"), .str (S "__doc__") 166, .none⟩, ⟨H P (S "__package__"), .str (S "__package__") 167, .none⟩, ⟨H P (S "__loader__"), .str (S "__loader__") 168, (.builtin "__main__.__loader__#opaque")⟩, ⟨H P (S "__spec__"), .str (S "__spec__") 169, .none⟩, ⟨H P (S "__annotations__"), .str (S "__annotations__") 170, (.ref 6)⟩, ⟨H P (S "__builtins__"), .str (S "__builtins__") 171, (.ref 4)⟩, ⟨H P (S "__file__"), .str (S "__file__") 173, (.str (S "/claim/cut.py") 172)⟩, ⟨H P (S "__cached__"), .str (S "__cached__") 174, .none⟩, ⟨H P (S "_sre"), .str (S "_sre") 275, (.ref 12)⟩, ⟨H P (S "b1_set"), .str (S "b1_set") 343, (.ref 39)⟩, ⟨H P (S "in_table_b1"), .str (S "in_table_b1") 350, (.ref 49)⟩, ⟨H P (S "b3_exceptions"), .str (S "b3_exceptions") 2301, (.ref 50)⟩, ⟨H P (S "map_table_b3"), .str (S "map_table_b3") 2309, (.ref 95)⟩, ⟨H P (S "Error"), .str (S "Error") 2331, (.ref 105)⟩, ⟨H P (S "error_reply"), .str (S "error_reply") 2347, (.ref 118)⟩, ⟨H P (S "parse257"), .str (S "parse257") 2358, (.ref 127)⟩, ⟨H P (S "_twin_re_1"), .str (S "_twin_re_1") 2376, (.ref 132)⟩, ⟨H P (S "_twin_re_2"), .str (S "_twin_re_2") 2418, (.ref 137)⟩] 19), #[]⟩
noncomputable def h133s12 (P : Params) : Obj := ⟨(.type "list"), none, (.seq #[(.int 14 2380), (.int 9 2381), (.int 4 2382), (.int 1 2383), (.int 2 2384), (.int 16 2385), (.int 10 2386), (.int 16 2387), (.int 13 2388), (.int 0 2389), (.int 7 2390), (.int 7 2391), (.int 16 2392), (.int 13 2393), (.int 16 2394), (.int 10 2395), (.int 15 2396), (.int 18 2397), (.int 5 2398), (.int 16 2399), (.int 10 2400), (.int 15 2401), (.int 13 2402), (.int 11 2403), (.int 16 2404), (.int 13 2405), (.int 5 2406), (.int 5 2407), (.int 0 2408), (.int 16 2409), (.int 10 2410), (.int 1 2411), (.int 15 2412), (.int 2 2413), (.int 0 2414), (.int 1 2415)] 0), #[]⟩
noncomputable def h134s12 (P : Params) : Obj := ⟨(.type "dict"), none, (.dict #[] 0), #[]⟩
noncomputable def h135s12 (P : Params) : Obj := ⟨(.type "tuple"), none, (.seq #[.none] 0), #[]⟩
noncomputable def h136s12 (P : Params) : Obj := ⟨(.type "tuple"), none, (.seq #[(.int 14 0), (.int 9 0), (.int 4 0), (.int 1 0), (.int 2 0), (.int 16 0), (.int 10 0), (.int 16 0), (.int 13 0), (.int 0 0), (.int 7 0), (.int 7 0), (.int 16 0), (.int 13 0), (.int 16 0), (.int 10 0), (.int 15 0), (.int 18 0), (.int 5 0), (.int 16 0), (.int 10 0), (.int 15 0), (.int 13 0), (.int 11 0), (.int 16 0), (.int 13 0), (.int 5 0), (.int 5 0), (.int 0 0), (.int 16 0), (.int 10 0), (.int 1 0), (.int 15 0), (.int 2 0), (.int 0 0), (.int 1 0)] 0), #[]⟩
noncomputable def h137s12 (P : Params) : Obj := ⟨(.type "re.Pattern"), none, (.fields #[(.str (PySem.Str.mk #[40, 63, 58, 92, 114, 92, 110, 124, 92, 110, 124, 92, 114, 40, 63, 33, 92, 110, 41, 41]) 2378), (.int 32 2417), (.int 0 0), .none, .none, (.ref 136), (.int 0 0)]), #[]⟩
noncomputable def T12 (P : Params) : BT := treeOf [h0se P, h1se P, h2s7 P, h3s12 P, h4se P, h5se P, h6se P, h7se P, h8se P, h9se P, h10se P, h11s0 P, h12se P, h13se P, h14se P, h15se P, h16se P, h17se P, h18se P, h19se P, h20se P, h21se P, h22se P, h23se P, h24se P, h25se P, h26se P, h27se P, h28sa P, h29s9 P, h30sa P, h31sa P, h32s2 P, h33s2 P, h34s2 P, h35s2 P, h36s2 P, h37s2 P, h38s2 P, h39s2 P, h40s2 P, h41s2 P, h42s2 P, h43s3 P, h44s3 P, h45s3 P, h46s3 P, h47s3 P, h48s3 P, h49s3 P, h50s4 P, h51s4 P, h52s4 P, h53s4 P, h54s4 P, h55s4 P, h56s4 P, h57s4 P, h58s4 P, h59s4 P, h60s4 P, h61s4 P, h62s4 P, h63s4 P, h64s4 P, h65s4 P, h66s4 P, h67s4 P, h68s4 P, h69s4 P, h70s4 P, h71s4 P, h72s4 P, h73s4 P, h74s4 P, h75s4 P, h76s4 P, h77s4 P, h78s4 P, h79s4 P, h80s4 P, h81s4 P, h82s4 P, h83s4 P, h84s4 P, h85s4 P, h86s4 P, h87s4 P, h88s4 P, h89s5 P, h90s5 P, h91s5 P, h92s5 P, h93s5 P, h94s5 P, h95s5 P, h96s7 P, h97s7 P, h98s7 P, h99s7 P, h100s7 P, h101s7 P, h102s7 P, h103s7 P, h104s7 P, h105s8 P, h106s7 P, h107s7 P, h108s7 P, h109s8 P, h110s8 P, h111s8 P, h112s8 P, h113s8 P, h114s8 P, h115s8 P, h116s8 P, h117s8 P, h118s8 P, h119s8 P, h120s8 P, h121s9 P, h122s9 P, h123s9 P, h124s9 P, h125s9 P, h126s9 P, h127s9 P, h128s11 P, h129s11 P, h130s11 P, h131s11 P, h132s11 P, h133s12 P, h134s12 P, h135s12 P, h136s12 P, h137s12 P]
noncomputable def h3s13 (P : Params) : Obj := ⟨(.type "dict"), none, (.dict #[⟨H P (S "__name__"), .str (S "__name__") 165, (.str (S "cpy313.smtplib") 2359)⟩, ⟨H P (S "__doc__"), .str (S "__doc__") 166, .none⟩, ⟨H P (S "__package__"), .str (S "__package__") 167, .none⟩, ⟨H P (S "__loader__"), .str (S "__loader__") 168, (.builtin "__main__.__loader__#opaque")⟩, ⟨H P (S "__spec__"), .str (S "__spec__") 169, .none⟩, ⟨H P (S "__annotations__"), .str (S "__annotations__") 170, (.ref 6)⟩, ⟨H P (S "__builtins__"), .str (S "__builtins__") 171, (.ref 4)⟩, ⟨H P (S "__file__"), .str (S "__file__") 173, (.str (S "/claim/cut.py") 172)⟩, ⟨H P (S "__cached__"), .str (S "__cached__") 174, .none⟩, ⟨H P (S "_sre"), .str (S "_sre") 275, (.ref 12)⟩, ⟨H P (S "b1_set"), .str (S "b1_set") 343, (.ref 39)⟩, ⟨H P (S "in_table_b1"), .str (S "in_table_b1") 350, (.ref 49)⟩, ⟨H P (S "b3_exceptions"), .str (S "b3_exceptions") 2301, (.ref 50)⟩, ⟨H P (S "map_table_b3"), .str (S "map_table_b3") 2309, (.ref 95)⟩, ⟨H P (S "Error"), .str (S "Error") 2331, (.ref 105)⟩, ⟨H P (S "error_reply"), .str (S "error_reply") 2347, (.ref 118)⟩, ⟨H P (S "parse257"), .str (S "parse257") 2358, (.ref 127)⟩, ⟨H P (S "_twin_re_1"), .str (S "_twin_re_1") 2376, (.ref 132)⟩, ⟨H P (S "_twin_re_2"), .str (S "_twin_re_2") 2418, (.ref 137)⟩, ⟨H P (S "CRLF"), .str (S "CRLF") 2420, (.str (PySem.Str.mk #[13, 10]) 2419)⟩] 20), #[]⟩
noncomputable def T13 (P : Params) : BT := treeOf [h0se P, h1se P, h2s7 P, h3s13 P, h4se P, h5se P, h6se P, h7se P, h8se P, h9se P, h10se P, h11s0 P, h12se P, h13se P, h14se P, h15se P, h16se P, h17se P, h18se P, h19se P, h20se P, h21se P, h22se P, h23se P, h24se P, h25se P, h26se P, h27se P, h28sa P, h29s9 P, h30sa P, h31sa P, h32s2 P, h33s2 P, h34s2 P, h35s2 P, h36s2 P, h37s2 P, h38s2 P, h39s2 P, h40s2 P, h41s2 P, h42s2 P, h43s3 P, h44s3 P, h45s3 P, h46s3 P, h47s3 P, h48s3 P, h49s3 P, h50s4 P, h51s4 P, h52s4 P, h53s4 P, h54s4 P, h55s4 P, h56s4 P, h57s4 P, h58s4 P, h59s4 P, h60s4 P, h61s4 P, h62s4 P, h63s4 P, h64s4 P, h65s4 P, h66s4 P, h67s4 P, h68s4 P, h69s4 P, h70s4 P, h71s4 P, h72s4 P, h73s4 P, h74s4 P, h75s4 P, h76s4 P, h77s4 P, h78s4 P, h79s4 P, h80s4 P, h81s4 P, h82s4 P, h83s4 P, h84s4 P, h85s4 P, h86s4 P, h87s4 P, h88s4 P, h89s5 P, h90s5 P, h91s5 P, h92s5 P, h93s5 P, h94s5 P, h95s5 P, h96s7 P, h97s7 P, h98s7 P, h99s7 P, h100s7 P, h101s7 P, h102s7 P, h103s7 P, h104s7 P, h105s8 P, h106s7 P, h107s7 P, h108s7 P, h109s8 P, h110s8 P, h111s8 P, h112s8 P, h113s8 P, h114s8 P, h115s8 P, h116s8 P, h117s8 P, h118s8 P, h119s8 P, h120s8 P, h121s9 P, h122s9 P, h123s9 P, h124s9 P, h125s9 P, h126s9 P, h127s9 P, h128s11 P, h129s11 P, h130s11 P, h131s11 P, h132s11 P, h133s12 P, h134s12 P, h135s12 P, h136s12 P, h137s12 P]
noncomputable def h3s14 (P : Params) : Obj := ⟨(.type "dict"), none, (.dict #[⟨H P (S "__name__"), .str (S "__name__") 165, (.str (S "cpy313.smtplib") 2359)⟩, ⟨H P (S "__doc__"), .str (S "__doc__") 166, .none⟩, ⟨H P (S "__package__"), .str (S "__package__") 167, .none⟩, ⟨H P (S "__loader__"), .str (S "__loader__") 168, (.builtin "__main__.__loader__#opaque")⟩, ⟨H P (S "__spec__"), .str (S "__spec__") 169, .none⟩, ⟨H P (S "__annotations__"), .str (S "__annotations__") 170, (.ref 6)⟩, ⟨H P (S "__builtins__"), .str (S "__builtins__") 171, (.ref 4)⟩, ⟨H P (S "__file__"), .str (S "__file__") 173, (.str (S "/claim/cut.py") 172)⟩, ⟨H P (S "__cached__"), .str (S "__cached__") 174, .none⟩, ⟨H P (S "_sre"), .str (S "_sre") 275, (.ref 12)⟩, ⟨H P (S "b1_set"), .str (S "b1_set") 343, (.ref 39)⟩, ⟨H P (S "in_table_b1"), .str (S "in_table_b1") 350, (.ref 49)⟩, ⟨H P (S "b3_exceptions"), .str (S "b3_exceptions") 2301, (.ref 50)⟩, ⟨H P (S "map_table_b3"), .str (S "map_table_b3") 2309, (.ref 95)⟩, ⟨H P (S "Error"), .str (S "Error") 2331, (.ref 105)⟩, ⟨H P (S "error_reply"), .str (S "error_reply") 2347, (.ref 118)⟩, ⟨H P (S "parse257"), .str (S "parse257") 2358, (.ref 127)⟩, ⟨H P (S "_twin_re_1"), .str (S "_twin_re_1") 2376, (.ref 132)⟩, ⟨H P (S "_twin_re_2"), .str (S "_twin_re_2") 2418, (.ref 137)⟩, ⟨H P (S "CRLF"), .str (S "CRLF") 2420, (.str (PySem.Str.mk #[13, 10]) 2419)⟩, ⟨H P (S "quotedata"), .str (S "quotedata") 2427, (.ref 144)⟩] 21), #[]⟩
noncomputable def h29s14 (P : Params) : Obj := ⟨.none, none, (.fields #[(.int 4 0), (.int 0 0), (.ref 48), (.int 7 0), (.int 0 0), (.ref 94), (.int 13 0), (.int 0 0), (.ref 101), (.int 15 0), (.int 0 0), (.ref 114), (.int 17 0), (.int 0 0), (.ref 126), (.int 38 0), (.int 0 0), (.ref 143)]), #[]⟩
noncomputable def h138s14 (P : Params) : Obj := ⟨(.type "tuple"), none, (.seq #[] 0), #[]⟩
noncomputable def h139s14 (P : Params) : Obj := ⟨.none, none, (.fields #[]), #[]⟩
noncomputable def h140s14 (P : Params) : Obj := ⟨(.type "tuple"), none, (.seq #[(.str (S "data") 2424)] 0), #[]⟩
noncomputable def h141s14 (P : Params) : Obj := ⟨(.type "tuple"), none, (.seq #[] 0), #[]⟩
noncomputable def h142s14 (P : Params) : Obj := ⟨.none, none, (.func { name := (S "quotedata"), qualname := (S "quotedata"), params := fpar14, body := .stmts fbody14, scope := fsco14, globals := 0, closure := [], defaults := .none, kwdefaults := .none, doc := .none, pyModule := .none, annotations := none, code := .none, closureTuple := .none, builtins := 0 }), #[]⟩
noncomputable def h143s14 (P : Params) : Obj := ⟨(.type "code"), none, (.fields #[(.str (S "quotedata") 2421), (.str (S "quotedata") 2422), (.str (S "/claim/cut.py") 2423), (.int 38 0), (.int 1 0), (.int 0 0), (.int 0 0), (.int 3 0), (.ref 138), (.bool true), (.int 276 0), (.ref 139), .none, (.ref 140), (.ref 141), (.ref 142), (.int 2425 0), (.int 38 0), (.str (S "/claim/cut.py") 2426)]), #[]⟩
noncomputable def h144s14 (P : Params) : Obj := ⟨(.type "function"), none, (.func { name := (S "quotedata"), qualname := (S "quotedata"), params := fpar14, body := .stmts fbody14, scope := fsco14, globals := 3, closure := [], defaults := .none, kwdefaults := .none, doc := .none, pyModule := (.str (S "cpy313.smtplib") 2359), annotations := none, code := (.ref 143), closureTuple := .none, builtins := 0 }), #[]⟩
noncomputable def T14 (P : Params) : BT := treeOf [h0se P, h1se P, h2s7 P, h3s14 P, h4se P, h5se P, h6se P, h7se P, h8se P, h9se P, h10se P, h11s0 P, h12se P, h13se P, h14se P, h15se P, h16se P, h17se P, h18se P, h19se P, h20se P, h21se P, h22se P, h23se P, h24se P, h25se P, h26se P, h27se P, h28sa P, h29s14 P, h30sa P, h31sa P, h32s2 P, h33s2 P, h34s2 P, h35s2 P, h36s2 P, h37s2 P, h38s2 P, h39s2 P, h40s2 P, h41s2 P, h42s2 P, h43s3 P, h44s3 P, h45s3 P, h46s3 P, h47s3 P, h48s3 P, h49s3 P, h50s4 P, h51s4 P, h52s4 P, h53s4 P, h54s4 P, h55s4 P, h56s4 P, h57s4 P, h58s4 P, h59s4 P, h60s4 P, h61s4 P, h62s4 P, h63s4 P, h64s4 P, h65s4 P, h66s4 P, h67s4 P, h68s4 P, h69s4 P, h70s4 P, h71s4 P, h72s4 P, h73s4 P, h74s4 P, h75s4 P, h76s4 P, h77s4 P, h78s4 P, h79s4 P, h80s4 P, h81s4 P, h82s4 P, h83s4 P, h84s4 P, h85s4 P, h86s4 P, h87s4 P, h88s4 P, h89s5 P, h90s5 P, h91s5 P, h92s5 P, h93s5 P, h94s5 P, h95s5 P, h96s7 P, h97s7 P, h98s7 P, h99s7 P, h100s7 P, h101s7 P, h102s7 P, h103s7 P, h104s7 P, h105s8 P, h106s7 P, h107s7 P, h108s7 P, h109s8 P, h110s8 P, h111s8 P, h112s8 P, h113s8 P, h114s8 P, h115s8 P, h116s8 P, h117s8 P, h118s8 P, h119s8 P, h120s8 P, h121s9 P, h122s9 P, h123s9 P, h124s9 P, h125s9 P, h126s9 P, h127s9 P, h128s11 P, h129s11 P, h130s11 P, h131s11 P, h132s11 P, h133s12 P, h134s12 P, h135s12 P, h136s12 P, h137s12 P, h138s14 P, h139s14 P, h140s14 P, h141s14 P, h142s14 P, h143s14 P, h144s14 P]
noncomputable def h3s15 (P : Params) : Obj := ⟨(.type "dict"), none, (.dict #[⟨H P (S "__name__"), .str (S "__name__") 165, (.str (S "law_tr0050_03") 2428)⟩, ⟨H P (S "__doc__"), .str (S "__doc__") 166, .none⟩, ⟨H P (S "__package__"), .str (S "__package__") 167, .none⟩, ⟨H P (S "__loader__"), .str (S "__loader__") 168, (.builtin "__main__.__loader__#opaque")⟩, ⟨H P (S "__spec__"), .str (S "__spec__") 169, .none⟩, ⟨H P (S "__annotations__"), .str (S "__annotations__") 170, (.ref 6)⟩, ⟨H P (S "__builtins__"), .str (S "__builtins__") 171, (.ref 4)⟩, ⟨H P (S "__file__"), .str (S "__file__") 173, (.str (S "/claim/cut.py") 172)⟩, ⟨H P (S "__cached__"), .str (S "__cached__") 174, .none⟩, ⟨H P (S "_sre"), .str (S "_sre") 275, (.ref 12)⟩, ⟨H P (S "b1_set"), .str (S "b1_set") 343, (.ref 39)⟩, ⟨H P (S "in_table_b1"), .str (S "in_table_b1") 350, (.ref 49)⟩, ⟨H P (S "b3_exceptions"), .str (S "b3_exceptions") 2301, (.ref 50)⟩, ⟨H P (S "map_table_b3"), .str (S "map_table_b3") 2309, (.ref 95)⟩, ⟨H P (S "Error"), .str (S "Error") 2331, (.ref 105)⟩, ⟨H P (S "error_reply"), .str (S "error_reply") 2347, (.ref 118)⟩, ⟨H P (S "parse257"), .str (S "parse257") 2358, (.ref 127)⟩, ⟨H P (S "_twin_re_1"), .str (S "_twin_re_1") 2376, (.ref 132)⟩, ⟨H P (S "_twin_re_2"), .str (S "_twin_re_2") 2418, (.ref 137)⟩, ⟨H P (S "CRLF"), .str (S "CRLF") 2420, (.str (PySem.Str.mk #[13, 10]) 2419)⟩, ⟨H P (S "quotedata"), .str (S "quotedata") 2427, (.ref 144)⟩] 21), #[]⟩
noncomputable def T15 (P : Params) : BT := treeOf [h0se P, h1se P, h2s7 P, h3s15 P, h4se P, h5se P, h6se P, h7se P, h8se P, h9se P, h10se P, h11s0 P, h12se P, h13se P, h14se P, h15se P, h16se P, h17se P, h18se P, h19se P, h20se P, h21se P, h22se P, h23se P, h24se P, h25se P, h26se P, h27se P, h28sa P, h29s14 P, h30sa P, h31sa P, h32s2 P, h33s2 P, h34s2 P, h35s2 P, h36s2 P, h37s2 P, h38s2 P, h39s2 P, h40s2 P, h41s2 P, h42s2 P, h43s3 P, h44s3 P, h45s3 P, h46s3 P, h47s3 P, h48s3 P, h49s3 P, h50s4 P, h51s4 P, h52s4 P, h53s4 P, h54s4 P, h55s4 P, h56s4 P, h57s4 P, h58s4 P, h59s4 P, h60s4 P, h61s4 P, h62s4 P, h63s4 P, h64s4 P, h65s4 P, h66s4 P, h67s4 P, h68s4 P, h69s4 P, h70s4 P, h71s4 P, h72s4 P, h73s4 P, h74s4 P, h75s4 P, h76s4 P, h77s4 P, h78s4 P, h79s4 P, h80s4 P, h81s4 P, h82s4 P, h83s4 P, h84s4 P, h85s4 P, h86s4 P, h87s4 P, h88s4 P, h89s5 P, h90s5 P, h91s5 P, h92s5 P, h93s5 P, h94s5 P, h95s5 P, h96s7 P, h97s7 P, h98s7 P, h99s7 P, h100s7 P, h101s7 P, h102s7 P, h103s7 P, h104s7 P, h105s8 P, h106s7 P, h107s7 P, h108s7 P, h109s8 P, h110s8 P, h111s8 P, h112s8 P, h113s8 P, h114s8 P, h115s8 P, h116s8 P, h117s8 P, h118s8 P, h119s8 P, h120s8 P, h121s9 P, h122s9 P, h123s9 P, h124s9 P, h125s9 P, h126s9 P, h127s9 P, h128s11 P, h129s11 P, h130s11 P, h131s11 P, h132s11 P, h133s12 P, h134s12 P, h135s12 P, h136s12 P, h137s12 P, h138s14 P, h139s14 P, h140s14 P, h141s14 P, h142s14 P, h143s14 P, h144s14 P]
noncomputable def h3s16 (P : Params) : Obj := ⟨(.type "dict"), none, (.dict #[⟨H P (S "__name__"), .str (S "__name__") 165, (.str (S "law_tr0050_03") 2428)⟩, ⟨H P (S "__doc__"), .str (S "__doc__") 166, .none⟩, ⟨H P (S "__package__"), .str (S "__package__") 167, .none⟩, ⟨H P (S "__loader__"), .str (S "__loader__") 168, (.builtin "__main__.__loader__#opaque")⟩, ⟨H P (S "__spec__"), .str (S "__spec__") 169, .none⟩, ⟨H P (S "__annotations__"), .str (S "__annotations__") 170, (.ref 6)⟩, ⟨H P (S "__builtins__"), .str (S "__builtins__") 171, (.ref 4)⟩, ⟨H P (S "__file__"), .str (S "__file__") 173, (.str (S "/claim/cut.py") 172)⟩, ⟨H P (S "__cached__"), .str (S "__cached__") 174, .none⟩, ⟨H P (S "_sre"), .str (S "_sre") 275, (.ref 12)⟩, ⟨H P (S "b1_set"), .str (S "b1_set") 343, (.ref 39)⟩, ⟨H P (S "in_table_b1"), .str (S "in_table_b1") 350, (.ref 49)⟩, ⟨H P (S "b3_exceptions"), .str (S "b3_exceptions") 2301, (.ref 50)⟩, ⟨H P (S "map_table_b3"), .str (S "map_table_b3") 2309, (.ref 95)⟩, ⟨H P (S "Error"), .str (S "Error") 2331, (.ref 105)⟩, ⟨H P (S "error_reply"), .str (S "error_reply") 2347, (.ref 118)⟩, ⟨H P (S "parse257"), .str (S "parse257") 2358, (.ref 127)⟩, ⟨H P (S "_twin_re_1"), .str (S "_twin_re_1") 2376, (.ref 132)⟩, ⟨H P (S "_twin_re_2"), .str (S "_twin_re_2") 2418, (.ref 137)⟩, ⟨H P (S "CRLF"), .str (S "CRLF") 2420, (.str (PySem.Str.mk #[13, 10]) 2419)⟩, ⟨H P (S "quotedata"), .str (S "quotedata") 2427, (.ref 144)⟩, ⟨H P (S "_law_unseen"), .str (S "_law_unseen") 2437, (.ref 151)⟩] 22), #[]⟩
noncomputable def h29s16 (P : Params) : Obj := ⟨.none, none, (.fields #[(.int 4 0), (.int 0 0), (.ref 48), (.int 7 0), (.int 0 0), (.ref 94), (.int 13 0), (.int 0 0), (.ref 101), (.int 15 0), (.int 0 0), (.ref 114), (.int 17 0), (.int 0 0), (.ref 126), (.int 38 0), (.int 0 0), (.ref 143), (.int 41 0), (.int 0 0), (.ref 150)]), #[]⟩
noncomputable def h145s16 (P : Params) : Obj := ⟨(.type "tuple"), none, (.seq #[] 0), #[]⟩
noncomputable def h146s16 (P : Params) : Obj := ⟨.none, none, (.fields #[]), #[]⟩
noncomputable def h147s16 (P : Params) : Obj := ⟨(.type "tuple"), none, (.seq #[(.str (S "k") 2433), (.str (S "codes") 2434)] 0), #[]⟩
noncomputable def h148s16 (P : Params) : Obj := ⟨(.type "tuple"), none, (.seq #[] 0), #[]⟩
noncomputable def h149s16 (P : Params) : Obj := ⟨.none, none, (.func { name := (S "_law_unseen"), qualname := (S "_law_unseen"), params := fpar16, body := .stmts fbody16, scope := fsco16, globals := 0, closure := [], defaults := .none, kwdefaults := .none, doc := .none, pyModule := .none, annotations := none, code := .none, closureTuple := .none, builtins := 0 }), #[]⟩
noncomputable def h150s16 (P : Params) : Obj := ⟨(.type "code"), none, (.fields #[(.str (S "_law_unseen") 2430), (.str (S "_law_unseen") 2431), (.str (S "/claim/cut.py") 2432), (.int 41 0), (.int 1 0), (.int 0 0), (.int 0 0), (.int 3 0), (.ref 145), (.bool true), (.int 276 0), (.ref 146), .none, (.ref 147), (.ref 148), (.ref 149), (.int 2435 0), (.int 41 0), (.str (S "/claim/cut.py") 2436)]), #[]⟩
noncomputable def h151s16 (P : Params) : Obj := ⟨(.type "function"), none, (.func { name := (S "_law_unseen"), qualname := (S "_law_unseen"), params := fpar16, body := .stmts fbody16, scope := fsco16, globals := 3, closure := [], defaults := .none, kwdefaults := .none, doc := .none, pyModule := (.str (S "law_tr0050_03") 2428), annotations := none, code := (.ref 150), closureTuple := .none, builtins := 0 }), #[]⟩
noncomputable def T16 (P : Params) : BT := treeOf [h0se P, h1se P, h2s7 P, h3s16 P, h4se P, h5se P, h6se P, h7se P, h8se P, h9se P, h10se P, h11s0 P, h12se P, h13se P, h14se P, h15se P, h16se P, h17se P, h18se P, h19se P, h20se P, h21se P, h22se P, h23se P, h24se P, h25se P, h26se P, h27se P, h28sa P, h29s16 P, h30sa P, h31sa P, h32s2 P, h33s2 P, h34s2 P, h35s2 P, h36s2 P, h37s2 P, h38s2 P, h39s2 P, h40s2 P, h41s2 P, h42s2 P, h43s3 P, h44s3 P, h45s3 P, h46s3 P, h47s3 P, h48s3 P, h49s3 P, h50s4 P, h51s4 P, h52s4 P, h53s4 P, h54s4 P, h55s4 P, h56s4 P, h57s4 P, h58s4 P, h59s4 P, h60s4 P, h61s4 P, h62s4 P, h63s4 P, h64s4 P, h65s4 P, h66s4 P, h67s4 P, h68s4 P, h69s4 P, h70s4 P, h71s4 P, h72s4 P, h73s4 P, h74s4 P, h75s4 P, h76s4 P, h77s4 P, h78s4 P, h79s4 P, h80s4 P, h81s4 P, h82s4 P, h83s4 P, h84s4 P, h85s4 P, h86s4 P, h87s4 P, h88s4 P, h89s5 P, h90s5 P, h91s5 P, h92s5 P, h93s5 P, h94s5 P, h95s5 P, h96s7 P, h97s7 P, h98s7 P, h99s7 P, h100s7 P, h101s7 P, h102s7 P, h103s7 P, h104s7 P, h105s8 P, h106s7 P, h107s7 P, h108s7 P, h109s8 P, h110s8 P, h111s8 P, h112s8 P, h113s8 P, h114s8 P, h115s8 P, h116s8 P, h117s8 P, h118s8 P, h119s8 P, h120s8 P, h121s9 P, h122s9 P, h123s9 P, h124s9 P, h125s9 P, h126s9 P, h127s9 P, h128s11 P, h129s11 P, h130s11 P, h131s11 P, h132s11 P, h133s12 P, h134s12 P, h135s12 P, h136s12 P, h137s12 P, h138s14 P, h139s14 P, h140s14 P, h141s14 P, h142s14 P, h143s14 P, h144s14 P, h145s16 P, h146s16 P, h147s16 P, h148s16 P, h149s16 P, h150s16 P, h151s16 P]
noncomputable def h3s17 (P : Params) : Obj := ⟨(.type "dict"), none, (.dict #[⟨H P (S "__name__"), .str (S "__name__") 165, (.str (S "law_tr0050_03") 2428)⟩, ⟨H P (S "__doc__"), .str (S "__doc__") 166, .none⟩, ⟨H P (S "__package__"), .str (S "__package__") 167, .none⟩, ⟨H P (S "__loader__"), .str (S "__loader__") 168, (.builtin "__main__.__loader__#opaque")⟩, ⟨H P (S "__spec__"), .str (S "__spec__") 169, .none⟩, ⟨H P (S "__annotations__"), .str (S "__annotations__") 170, (.ref 6)⟩, ⟨H P (S "__builtins__"), .str (S "__builtins__") 171, (.ref 4)⟩, ⟨H P (S "__file__"), .str (S "__file__") 173, (.str (S "/claim/cut.py") 172)⟩, ⟨H P (S "__cached__"), .str (S "__cached__") 174, .none⟩, ⟨H P (S "_sre"), .str (S "_sre") 275, (.ref 12)⟩, ⟨H P (S "b1_set"), .str (S "b1_set") 343, (.ref 39)⟩, ⟨H P (S "in_table_b1"), .str (S "in_table_b1") 350, (.ref 49)⟩, ⟨H P (S "b3_exceptions"), .str (S "b3_exceptions") 2301, (.ref 50)⟩, ⟨H P (S "map_table_b3"), .str (S "map_table_b3") 2309, (.ref 95)⟩, ⟨H P (S "Error"), .str (S "Error") 2331, (.ref 105)⟩, ⟨H P (S "error_reply"), .str (S "error_reply") 2347, (.ref 118)⟩, ⟨H P (S "parse257"), .str (S "parse257") 2358, (.ref 127)⟩, ⟨H P (S "_twin_re_1"), .str (S "_twin_re_1") 2376, (.ref 132)⟩, ⟨H P (S "_twin_re_2"), .str (S "_twin_re_2") 2418, (.ref 137)⟩, ⟨H P (S "CRLF"), .str (S "CRLF") 2420, (.str (PySem.Str.mk #[13, 10]) 2419)⟩, ⟨H P (S "quotedata"), .str (S "quotedata") 2427, (.ref 144)⟩, ⟨H P (S "_law_unseen"), .str (S "_law_unseen") 2437, (.ref 151)⟩, ⟨H P (S "_law_two"), .str (S "_law_two") 2445, (.ref 158)⟩] 23), #[]⟩
noncomputable def h29s17 (P : Params) : Obj := ⟨.none, none, (.fields #[(.int 4 0), (.int 0 0), (.ref 48), (.int 7 0), (.int 0 0), (.ref 94), (.int 13 0), (.int 0 0), (.ref 101), (.int 15 0), (.int 0 0), (.ref 114), (.int 17 0), (.int 0 0), (.ref 126), (.int 38 0), (.int 0 0), (.ref 143), (.int 41 0), (.int 0 0), (.ref 150), (.int 44 0), (.int 0 0), (.ref 157)]), #[]⟩
noncomputable def h152s17 (P : Params) : Obj := ⟨(.type "tuple"), none, (.seq #[] 0), #[]⟩
noncomputable def h153s17 (P : Params) : Obj := ⟨.none, none, (.fields #[]), #[]⟩
noncomputable def h154s17 (P : Params) : Obj := ⟨(.type "tuple"), none, (.seq #[(.str (S "k") 2441), (.str (S "pairs") 2442)] 0), #[]⟩
noncomputable def h155s17 (P : Params) : Obj := ⟨(.type "tuple"), none, (.seq #[] 0), #[]⟩
noncomputable def h156s17 (P : Params) : Obj := ⟨.none, none, (.func { name := (S "_law_two"), qualname := (S "_law_two"), params := fpar17, body := .stmts fbody17, scope := fsco17, globals := 0, closure := [], defaults := .none, kwdefaults := .none, doc := .none, pyModule := .none, annotations := none, code := .none, closureTuple := .none, builtins := 0 }), #[]⟩
noncomputable def h157s17 (P : Params) : Obj := ⟨(.type "code"), none, (.fields #[(.str (S "_law_two") 2438), (.str (S "_law_two") 2439), (.str (S "/claim/cut.py") 2440), (.int 44 0), (.int 1 0), (.int 0 0), (.int 0 0), (.int 3 0), (.ref 152), (.bool true), (.int 276 0), (.ref 153), .none, (.ref 154), (.ref 155), (.ref 156), (.int 2443 0), (.int 44 0), (.str (S "/claim/cut.py") 2444)]), #[]⟩
noncomputable def h158s17 (P : Params) : Obj := ⟨(.type "function"), none, (.func { name := (S "_law_two"), qualname := (S "_law_two"), params := fpar17, body := .stmts fbody17, scope := fsco17, globals := 3, closure := [], defaults := .none, kwdefaults := .none, doc := .none, pyModule := (.str (S "law_tr0050_03") 2428), annotations := none, code := (.ref 157), closureTuple := .none, builtins := 0 }), #[]⟩
noncomputable def T17 (P : Params) : BT := treeOf [h0se P, h1se P, h2s7 P, h3s17 P, h4se P, h5se P, h6se P, h7se P, h8se P, h9se P, h10se P, h11s0 P, h12se P, h13se P, h14se P, h15se P, h16se P, h17se P, h18se P, h19se P, h20se P, h21se P, h22se P, h23se P, h24se P, h25se P, h26se P, h27se P, h28sa P, h29s17 P, h30sa P, h31sa P, h32s2 P, h33s2 P, h34s2 P, h35s2 P, h36s2 P, h37s2 P, h38s2 P, h39s2 P, h40s2 P, h41s2 P, h42s2 P, h43s3 P, h44s3 P, h45s3 P, h46s3 P, h47s3 P, h48s3 P, h49s3 P, h50s4 P, h51s4 P, h52s4 P, h53s4 P, h54s4 P, h55s4 P, h56s4 P, h57s4 P, h58s4 P, h59s4 P, h60s4 P, h61s4 P, h62s4 P, h63s4 P, h64s4 P, h65s4 P, h66s4 P, h67s4 P, h68s4 P, h69s4 P, h70s4 P, h71s4 P, h72s4 P, h73s4 P, h74s4 P, h75s4 P, h76s4 P, h77s4 P, h78s4 P, h79s4 P, h80s4 P, h81s4 P, h82s4 P, h83s4 P, h84s4 P, h85s4 P, h86s4 P, h87s4 P, h88s4 P, h89s5 P, h90s5 P, h91s5 P, h92s5 P, h93s5 P, h94s5 P, h95s5 P, h96s7 P, h97s7 P, h98s7 P, h99s7 P, h100s7 P, h101s7 P, h102s7 P, h103s7 P, h104s7 P, h105s8 P, h106s7 P, h107s7 P, h108s7 P, h109s8 P, h110s8 P, h111s8 P, h112s8 P, h113s8 P, h114s8 P, h115s8 P, h116s8 P, h117s8 P, h118s8 P, h119s8 P, h120s8 P, h121s9 P, h122s9 P, h123s9 P, h124s9 P, h125s9 P, h126s9 P, h127s9 P, h128s11 P, h129s11 P, h130s11 P, h131s11 P, h132s11 P, h133s12 P, h134s12 P, h135s12 P, h136s12 P, h137s12 P, h138s14 P, h139s14 P, h140s14 P, h141s14 P, h142s14 P, h143s14 P, h144s14 P, h145s16 P, h146s16 P, h147s16 P, h148s16 P, h149s16 P, h150s16 P, h151s16 P, h152s17 P, h153s17 P, h154s17 P, h155s17 P, h156s17 P, h157s17 P, h158s17 P]
noncomputable def h3s18 (P : Params) : Obj := ⟨(.type "dict"), none, (.dict #[⟨H P (S "__name__"), .str (S "__name__") 165, (.str (S "law_tr0050_03") 2428)⟩, ⟨H P (S "__doc__"), .str (S "__doc__") 166, .none⟩, ⟨H P (S "__package__"), .str (S "__package__") 167, .none⟩, ⟨H P (S "__loader__"), .str (S "__loader__") 168, (.builtin "__main__.__loader__#opaque")⟩, ⟨H P (S "__spec__"), .str (S "__spec__") 169, .none⟩, ⟨H P (S "__annotations__"), .str (S "__annotations__") 170, (.ref 6)⟩, ⟨H P (S "__builtins__"), .str (S "__builtins__") 171, (.ref 4)⟩, ⟨H P (S "__file__"), .str (S "__file__") 173, (.str (S "/claim/cut.py") 172)⟩, ⟨H P (S "__cached__"), .str (S "__cached__") 174, .none⟩, ⟨H P (S "_sre"), .str (S "_sre") 275, (.ref 12)⟩, ⟨H P (S "b1_set"), .str (S "b1_set") 343, (.ref 39)⟩, ⟨H P (S "in_table_b1"), .str (S "in_table_b1") 350, (.ref 49)⟩, ⟨H P (S "b3_exceptions"), .str (S "b3_exceptions") 2301, (.ref 50)⟩, ⟨H P (S "map_table_b3"), .str (S "map_table_b3") 2309, (.ref 95)⟩, ⟨H P (S "Error"), .str (S "Error") 2331, (.ref 105)⟩, ⟨H P (S "error_reply"), .str (S "error_reply") 2347, (.ref 118)⟩, ⟨H P (S "parse257"), .str (S "parse257") 2358, (.ref 127)⟩, ⟨H P (S "_twin_re_1"), .str (S "_twin_re_1") 2376, (.ref 132)⟩, ⟨H P (S "_twin_re_2"), .str (S "_twin_re_2") 2418, (.ref 137)⟩, ⟨H P (S "CRLF"), .str (S "CRLF") 2420, (.str (PySem.Str.mk #[13, 10]) 2419)⟩, ⟨H P (S "quotedata"), .str (S "quotedata") 2427, (.ref 144)⟩, ⟨H P (S "_law_unseen"), .str (S "_law_unseen") 2437, (.ref 151)⟩, ⟨H P (S "_law_two"), .str (S "_law_two") 2445, (.ref 158)⟩, ⟨H P (S "_law_three"), .str (S "_law_three") 2453, (.ref 165)⟩] 24), #[]⟩
noncomputable def h29s18 (P : Params) : Obj := ⟨.none, none, (.fields #[(.int 4 0), (.int 0 0), (.ref 48), (.int 7 0), (.int 0 0), (.ref 94), (.int 13 0), (.int 0 0), (.ref 101), (.int 15 0), (.int 0 0), (.ref 114), (.int 17 0), (.int 0 0), (.ref 126), (.int 38 0), (.int 0 0), (.ref 143), (.int 41 0), (.int 0 0), (.ref 150), (.int 44 0), (.int 0 0), (.ref 157), (.int 47 0), (.int 0 0), (.ref 164)]), #[]⟩
noncomputable def h159s18 (P : Params) : Obj := ⟨(.type "tuple"), none, (.seq #[] 0), #[]⟩
noncomputable def h160s18 (P : Params) : Obj := ⟨.none, none, (.fields #[]), #[]⟩
noncomputable def h161s18 (P : Params) : Obj := ⟨(.type "tuple"), none, (.seq #[(.str (S "k") 2449), (.str (S "pairs") 2450)] 0), #[]⟩
noncomputable def h162s18 (P : Params) : Obj := ⟨(.type "tuple"), none, (.seq #[] 0), #[]⟩
noncomputable def h163s18 (P : Params) : Obj := ⟨.none, none, (.func { name := (S "_law_three"), qualname := (S "_law_three"), params := fpar18, body := .stmts fbody18, scope := fsco18, globals := 0, closure := [], defaults := .none, kwdefaults := .none, doc := .none, pyModule := .none, annotations := none, code := .none, closureTuple := .none, builtins := 0 }), #[]⟩
noncomputable def h164s18 (P : Params) : Obj := ⟨(.type "code"), none, (.fields #[(.str (S "_law_three") 2446), (.str (S "_law_three") 2447), (.str (S "/claim/cut.py") 2448), (.int 47 0), (.int 1 0), (.int 0 0), (.int 0 0), (.int 3 0), (.ref 159), (.bool true), (.int 276 0), (.ref 160), .none, (.ref 161), (.ref 162), (.ref 163), (.int 2451 0), (.int 47 0), (.str (S "/claim/cut.py") 2452)]), #[]⟩
noncomputable def h165s18 (P : Params) : Obj := ⟨(.type "function"), none, (.func { name := (S "_law_three"), qualname := (S "_law_three"), params := fpar18, body := .stmts fbody18, scope := fsco18, globals := 3, closure := [], defaults := .none, kwdefaults := .none, doc := .none, pyModule := (.str (S "law_tr0050_03") 2428), annotations := none, code := (.ref 164), closureTuple := .none, builtins := 0 }), #[]⟩
noncomputable def T18 (P : Params) : BT := treeOf [h0se P, h1se P, h2s7 P, h3s18 P, h4se P, h5se P, h6se P, h7se P, h8se P, h9se P, h10se P, h11s0 P, h12se P, h13se P, h14se P, h15se P, h16se P, h17se P, h18se P, h19se P, h20se P, h21se P, h22se P, h23se P, h24se P, h25se P, h26se P, h27se P, h28sa P, h29s18 P, h30sa P, h31sa P, h32s2 P, h33s2 P, h34s2 P, h35s2 P, h36s2 P, h37s2 P, h38s2 P, h39s2 P, h40s2 P, h41s2 P, h42s2 P, h43s3 P, h44s3 P, h45s3 P, h46s3 P, h47s3 P, h48s3 P, h49s3 P, h50s4 P, h51s4 P, h52s4 P, h53s4 P, h54s4 P, h55s4 P, h56s4 P, h57s4 P, h58s4 P, h59s4 P, h60s4 P, h61s4 P, h62s4 P, h63s4 P, h64s4 P, h65s4 P, h66s4 P, h67s4 P, h68s4 P, h69s4 P, h70s4 P, h71s4 P, h72s4 P, h73s4 P, h74s4 P, h75s4 P, h76s4 P, h77s4 P, h78s4 P, h79s4 P, h80s4 P, h81s4 P, h82s4 P, h83s4 P, h84s4 P, h85s4 P, h86s4 P, h87s4 P, h88s4 P, h89s5 P, h90s5 P, h91s5 P, h92s5 P, h93s5 P, h94s5 P, h95s5 P, h96s7 P, h97s7 P, h98s7 P, h99s7 P, h100s7 P, h101s7 P, h102s7 P, h103s7 P, h104s7 P, h105s8 P, h106s7 P, h107s7 P, h108s7 P, h109s8 P, h110s8 P, h111s8 P, h112s8 P, h113s8 P, h114s8 P, h115s8 P, h116s8 P, h117s8 P, h118s8 P, h119s8 P, h120s8 P, h121s9 P, h122s9 P, h123s9 P, h124s9 P, h125s9 P, h126s9 P, h127s9 P, h128s11 P, h129s11 P, h130s11 P, h131s11 P, h132s11 P, h133s12 P, h134s12 P, h135s12 P, h136s12 P, h137s12 P, h138s14 P, h139s14 P, h140s14 P, h141s14 P, h142s14 P, h143s14 P, h144s14 P, h145s16 P, h146s16 P, h147s16 P, h148s16 P, h149s16 P, h150s16 P, h151s16 P, h152s17 P, h153s17 P, h154s17 P, h155s17 P, h156s17 P, h157s17 P, h158s17 P, h159s18 P, h160s18 P, h161s18 P, h162s18 P, h163s18 P, h164s18 P, h165s18 P]
noncomputable def h3s19 (P : Params) : Obj := ⟨(.type "dict"), none, (.dict #[⟨H P (S "__name__"), .str (S "__name__") 165, (.str (S "law_tr0050_03") 2428)⟩, ⟨H P (S "__doc__"), .str (S "__doc__") 166, .none⟩, ⟨H P (S "__package__"), .str (S "__package__") 167, .none⟩, ⟨H P (S "__loader__"), .str (S "__loader__") 168, (.builtin "__main__.__loader__#opaque")⟩, ⟨H P (S "__spec__"), .str (S "__spec__") 169, .none⟩, ⟨H P (S "__annotations__"), .str (S "__annotations__") 170, (.ref 6)⟩, ⟨H P (S "__builtins__"), .str (S "__builtins__") 171, (.ref 4)⟩, ⟨H P (S "__file__"), .str (S "__file__") 173, (.str (S "/claim/cut.py") 172)⟩, ⟨H P (S "__cached__"), .str (S "__cached__") 174, .none⟩, ⟨H P (S "_sre"), .str (S "_sre") 275, (.ref 12)⟩, ⟨H P (S "b1_set"), .str (S "b1_set") 343, (.ref 39)⟩, ⟨H P (S "in_table_b1"), .str (S "in_table_b1") 350, (.ref 49)⟩, ⟨H P (S "b3_exceptions"), .str (S "b3_exceptions") 2301, (.ref 50)⟩, ⟨H P (S "map_table_b3"), .str (S "map_table_b3") 2309, (.ref 95)⟩, ⟨H P (S "Error"), .str (S "Error") 2331, (.ref 105)⟩, ⟨H P (S "error_reply"), .str (S "error_reply") 2347, (.ref 118)⟩, ⟨H P (S "parse257"), .str (S "parse257") 2358, (.ref 127)⟩, ⟨H P (S "_twin_re_1"), .str (S "_twin_re_1") 2376, (.ref 132)⟩, ⟨H P (S "_twin_re_2"), .str (S "_twin_re_2") 2418, (.ref 137)⟩, ⟨H P (S "CRLF"), .str (S "CRLF") 2420, (.str (PySem.Str.mk #[13, 10]) 2419)⟩, ⟨H P (S "quotedata"), .str (S "quotedata") 2427, (.ref 144)⟩, ⟨H P (S "_law_unseen"), .str (S "_law_unseen") 2437, (.ref 151)⟩, ⟨H P (S "_law_two"), .str (S "_law_two") 2445, (.ref 158)⟩, ⟨H P (S "_law_three"), .str (S "_law_three") 2453, (.ref 165)⟩, ⟨H P (S "_law_signs"), .str (S "_law_signs") 2461, (.ref 172)⟩] 25), #[]⟩
noncomputable def h29s19 (P : Params) : Obj := ⟨.none, none, (.fields #[(.int 4 0), (.int 0 0), (.ref 48), (.int 7 0), (.int 0 0), (.ref 94), (.int 13 0), (.int 0 0), (.ref 101), (.int 15 0), (.int 0 0), (.ref 114), (.int 17 0), (.int 0 0), (.ref 126), (.int 38 0), (.int 0 0), (.ref 143), (.int 41 0), (.int 0 0), (.ref 150), (.int 44 0), (.int 0 0), (.ref 157), (.int 47 0), (.int 0 0), (.ref 164), (.int 50 0), (.int 0 0), (.ref 171)]), #[]⟩
noncomputable def h166s19 (P : Params) : Obj := ⟨(.type "tuple"), none, (.seq #[] 0), #[]⟩
noncomputable def h167s19 (P : Params) : Obj := ⟨.none, none, (.fields #[]), #[]⟩
noncomputable def h168s19 (P : Params) : Obj := ⟨(.type "tuple"), none, (.seq #[(.str (S "often") 2457), (.str (S "k") 2458)] 0), #[]⟩
noncomputable def h169s19 (P : Params) : Obj := ⟨(.type "tuple"), none, (.seq #[] 0), #[]⟩
noncomputable def h170s19 (P : Params) : Obj := ⟨.none, none, (.func { name := (S "_law_signs"), qualname := (S "_law_signs"), params := fpar19, body := .stmts fbody19, scope := fsco19, globals := 0, closure := [], defaults := .none, kwdefaults := .none, doc := .none, pyModule := .none, annotations := none, code := .none, closureTuple := .none, builtins := 0 }), #[]⟩
noncomputable def h171s19 (P : Params) : Obj := ⟨(.type "code"), none, (.fields #[(.str (S "_law_signs") 2454), (.str (S "_law_signs") 2455), (.str (S "/claim/cut.py") 2456), (.int 50 0), (.int 2 0), (.int 0 0), (.int 0 0), (.int 3 0), (.ref 166), (.bool true), (.int 276 0), (.ref 167), .none, (.ref 168), (.ref 169), (.ref 170), (.int 2459 0), (.int 50 0), (.str (S "/claim/cut.py") 2460)]), #[]⟩
noncomputable def h172s19 (P : Params) : Obj := ⟨(.type "function"), none, (.func { name := (S "_law_signs"), qualname := (S "_law_signs"), params := fpar19, body := .stmts fbody19, scope := fsco19, globals := 3, closure := [], defaults := .none, kwdefaults := .none, doc := .none, pyModule := (.str (S "law_tr0050_03") 2428), annotations := none, code := (.ref 171), closureTuple := .none, builtins := 0 }), #[]⟩
noncomputable def T19 (P : Params) : BT := treeOf [h0se P, h1se P, h2s7 P, h3s19 P, h4se P, h5se P, h6se P, h7se P, h8se P, h9se P, h10se P, h11s0 P, h12se P, h13se P, h14se P, h15se P, h16se P, h17se P, h18se P, h19se P, h20se P, h21se P, h22se P, h23se P, h24se P, h25se P, h26se P, h27se P, h28sa P, h29s19 P, h30sa P, h31sa P, h32s2 P, h33s2 P, h34s2 P, h35s2 P, h36s2 P, h37s2 P, h38s2 P, h39s2 P, h40s2 P, h41s2 P, h42s2 P, h43s3 P, h44s3 P, h45s3 P, h46s3 P, h47s3 P, h48s3 P, h49s3 P, h50s4 P, h51s4 P, h52s4 P, h53s4 P, h54s4 P, h55s4 P, h56s4 P, h57s4 P, h58s4 P, h59s4 P, h60s4 P, h61s4 P, h62s4 P, h63s4 P, h64s4 P, h65s4 P, h66s4 P, h67s4 P, h68s4 P, h69s4 P, h70s4 P, h71s4 P, h72s4 P, h73s4 P, h74s4 P, h75s4 P, h76s4 P, h77s4 P, h78s4 P, h79s4 P, h80s4 P, h81s4 P, h82s4 P, h83s4 P, h84s4 P, h85s4 P, h86s4 P, h87s4 P, h88s4 P, h89s5 P, h90s5 P, h91s5 P, h92s5 P, h93s5 P, h94s5 P, h95s5 P, h96s7 P, h97s7 P, h98s7 P, h99s7 P, h100s7 P, h101s7 P, h102s7 P, h103s7 P, h104s7 P, h105s8 P, h106s7 P, h107s7 P, h108s7 P, h109s8 P, h110s8 P, h111s8 P, h112s8 P, h113s8 P, h114s8 P, h115s8 P, h116s8 P, h117s8 P, h118s8 P, h119s8 P, h120s8 P, h121s9 P, h122s9 P, h123s9 P, h124s9 P, h125s9 P, h126s9 P, h127s9 P, h128s11 P, h129s11 P, h130s11 P, h131s11 P, h132s11 P, h133s12 P, h134s12 P, h135s12 P, h136s12 P, h137s12 P, h138s14 P, h139s14 P, h140s14 P, h141s14 P, h142s14 P, h143s14 P, h144s14 P, h145s16 P, h146s16 P, h147s16 P, h148s16 P, h149s16 P, h150s16 P, h151s16 P, h152s17 P, h153s17 P, h154s17 P, h155s17 P, h156s17 P, h157s17 P, h158s17 P, h159s18 P, h160s18 P, h161s18 P, h162s18 P, h163s18 P, h164s18 P, h165s18 P, h166s19 P, h167s19 P, h168s19 P, h169s19 P, h170s19 P, h171s19 P, h172s19 P]
noncomputable def h3s20 (P : Params) : Obj := ⟨(.type "dict"), none, (.dict #[⟨H P (S "__name__"), .str (S "__name__") 165, (.str (S "law_tr0050_03") 2428)⟩, ⟨H P (S "__doc__"), .str (S "__doc__") 166, .none⟩, ⟨H P (S "__package__"), .str (S "__package__") 167, .none⟩, ⟨H P (S "__loader__"), .str (S "__loader__") 168, (.builtin "__main__.__loader__#opaque")⟩, ⟨H P (S "__spec__"), .str (S "__spec__") 169, .none⟩, ⟨H P (S "__annotations__"), .str (S "__annotations__") 170, (.ref 6)⟩, ⟨H P (S "__builtins__"), .str (S "__builtins__") 171, (.ref 4)⟩, ⟨H P (S "__file__"), .str (S "__file__") 173, (.str (S "/claim/cut.py") 172)⟩, ⟨H P (S "__cached__"), .str (S "__cached__") 174, .none⟩, ⟨H P (S "_sre"), .str (S "_sre") 275, (.ref 12)⟩, ⟨H P (S "b1_set"), .str (S "b1_set") 343, (.ref 39)⟩, ⟨H P (S "in_table_b1"), .str (S "in_table_b1") 350, (.ref 49)⟩, ⟨H P (S "b3_exceptions"), .str (S "b3_exceptions") 2301, (.ref 50)⟩, ⟨H P (S "map_table_b3"), .str (S "map_table_b3") 2309, (.ref 95)⟩, ⟨H P (S "Error"), .str (S "Error") 2331, (.ref 105)⟩, ⟨H P (S "error_reply"), .str (S "error_reply") 2347, (.ref 118)⟩, ⟨H P (S "parse257"), .str (S "parse257") 2358, (.ref 127)⟩, ⟨H P (S "_twin_re_1"), .str (S "_twin_re_1") 2376, (.ref 132)⟩, ⟨H P (S "_twin_re_2"), .str (S "_twin_re_2") 2418, (.ref 137)⟩, ⟨H P (S "CRLF"), .str (S "CRLF") 2420, (.str (PySem.Str.mk #[13, 10]) 2419)⟩, ⟨H P (S "quotedata"), .str (S "quotedata") 2427, (.ref 144)⟩, ⟨H P (S "_law_unseen"), .str (S "_law_unseen") 2437, (.ref 151)⟩, ⟨H P (S "_law_two"), .str (S "_law_two") 2445, (.ref 158)⟩, ⟨H P (S "_law_three"), .str (S "_law_three") 2453, (.ref 165)⟩, ⟨H P (S "_law_signs"), .str (S "_law_signs") 2461, (.ref 172)⟩, ⟨H P (S "_law_grown"), .str (S "_law_grown") 2467, (.ref 177)⟩] 26), #[]⟩
noncomputable def h29s20 (P : Params) : Obj := ⟨.none, none, (.fields #[(.int 4 0), (.int 0 0), (.ref 48), (.int 7 0), (.int 0 0), (.ref 94), (.int 13 0), (.int 0 0), (.ref 101), (.int 15 0), (.int 0 0), (.ref 114), (.int 17 0), (.int 0 0), (.ref 126), (.int 38 0), (.int 0 0), (.ref 143), (.int 41 0), (.int 0 0), (.ref 150), (.int 44 0), (.int 0 0), (.ref 157), (.int 47 0), (.int 0 0), (.ref 164), (.int 50 0), (.int 0 0), (.ref 171), (.int 56 0), (.int 0 0), (.ref 176)]), #[]⟩
noncomputable def h173s20 (P : Params) : Obj := ⟨(.type "tuple"), none, (.seq #[] 0), #[]⟩
noncomputable def h174s20 (P : Params) : Obj := ⟨.none, none, (.fields #[]), #[]⟩
noncomputable def h175s20 (P : Params) : Obj := ⟨.none, none, (.func { name := (S "_law_grown"), qualname := (S "_law_grown"), params := fpar20, body := .stmts fbody20, scope := fsco20, globals := 0, closure := [], defaults := .none, kwdefaults := .none, doc := .none, pyModule := .none, annotations := none, code := .none, closureTuple := .none, builtins := 0 }), #[]⟩
noncomputable def h176s20 (P : Params) : Obj := ⟨(.type "code"), none, (.fields #[(.str (S "_law_grown") 2462), (.str (S "_law_grown") 2463), (.str (S "/claim/cut.py") 2464), (.int 56 0), (.int 3 0), (.int 0 0), (.int 0 0), (.int 3 0), (.ref 173), (.bool true), (.int 276 0), (.ref 174), .none, .none, .none, (.ref 175), (.int 2465 0), (.int 56 0), (.str (S "/claim/cut.py") 2466)]), #[]⟩
noncomputable def h177s20 (P : Params) : Obj := ⟨(.type "function"), none, (.func { name := (S "_law_grown"), qualname := (S "_law_grown"), params := fpar20, body := .stmts fbody20, scope := fsco20, globals := 3, closure := [], defaults := .none, kwdefaults := .none, doc := .none, pyModule := (.str (S "law_tr0050_03") 2428), annotations := none, code := (.ref 176), closureTuple := .none, builtins := 0 }), #[]⟩
noncomputable def T20 (P : Params) : BT := treeOf [h0se P, h1se P, h2s7 P, h3s20 P, h4se P, h5se P, h6se P, h7se P, h8se P, h9se P, h10se P, h11s0 P, h12se P, h13se P, h14se P, h15se P, h16se P, h17se P, h18se P, h19se P, h20se P, h21se P, h22se P, h23se P, h24se P, h25se P, h26se P, h27se P, h28sa P, h29s20 P, h30sa P, h31sa P, h32s2 P, h33s2 P, h34s2 P, h35s2 P, h36s2 P, h37s2 P, h38s2 P, h39s2 P, h40s2 P, h41s2 P, h42s2 P, h43s3 P, h44s3 P, h45s3 P, h46s3 P, h47s3 P, h48s3 P, h49s3 P, h50s4 P, h51s4 P, h52s4 P, h53s4 P, h54s4 P, h55s4 P, h56s4 P, h57s4 P, h58s4 P, h59s4 P, h60s4 P, h61s4 P, h62s4 P, h63s4 P, h64s4 P, h65s4 P, h66s4 P, h67s4 P, h68s4 P, h69s4 P, h70s4 P, h71s4 P, h72s4 P, h73s4 P, h74s4 P, h75s4 P, h76s4 P, h77s4 P, h78s4 P, h79s4 P, h80s4 P, h81s4 P, h82s4 P, h83s4 P, h84s4 P, h85s4 P, h86s4 P, h87s4 P, h88s4 P, h89s5 P, h90s5 P, h91s5 P, h92s5 P, h93s5 P, h94s5 P, h95s5 P, h96s7 P, h97s7 P, h98s7 P, h99s7 P, h100s7 P, h101s7 P, h102s7 P, h103s7 P, h104s7 P, h105s8 P, h106s7 P, h107s7 P, h108s7 P, h109s8 P, h110s8 P, h111s8 P, h112s8 P, h113s8 P, h114s8 P, h115s8 P, h116s8 P, h117s8 P, h118s8 P, h119s8 P, h120s8 P, h121s9 P, h122s9 P, h123s9 P, h124s9 P, h125s9 P, h126s9 P, h127s9 P, h128s11 P, h129s11 P, h130s11 P, h131s11 P, h132s11 P, h133s12 P, h134s12 P, h135s12 P, h136s12 P, h137s12 P, h138s14 P, h139s14 P, h140s14 P, h141s14 P, h142s14 P, h143s14 P, h144s14 P, h145s16 P, h146s16 P, h147s16 P, h148s16 P, h149s16 P, h150s16 P, h151s16 P, h152s17 P, h153s17 P, h154s17 P, h155s17 P, h156s17 P, h157s17 P, h158s17 P, h159s18 P, h160s18 P, h161s18 P, h162s18 P, h163s18 P, h164s18 P, h165s18 P, h166s19 P, h167s19 P, h168s19 P, h169s19 P, h170s19 P, h171s19 P, h172s19 P, h173s20 P, h174s20 P, h175s20 P, h176s20 P, h177s20 P]
noncomputable def h3s21 (P : Params) : Obj := ⟨(.type "dict"), none, (.dict #[⟨H P (S "__name__"), .str (S "__name__") 165, (.str (S "law_tr0050_03") 2428)⟩, ⟨H P (S "__doc__"), .str (S "__doc__") 166, .none⟩, ⟨H P (S "__package__"), .str (S "__package__") 167, .none⟩, ⟨H P (S "__loader__"), .str (S "__loader__") 168, (.builtin "__main__.__loader__#opaque")⟩, ⟨H P (S "__spec__"), .str (S "__spec__") 169, .none⟩, ⟨H P (S "__annotations__"), .str (S "__annotations__") 170, (.ref 6)⟩, ⟨H P (S "__builtins__"), .str (S "__builtins__") 171, (.ref 4)⟩, ⟨H P (S "__file__"), .str (S "__file__") 173, (.str (S "/claim/cut.py") 172)⟩, ⟨H P (S "__cached__"), .str (S "__cached__") 174, .none⟩, ⟨H P (S "_sre"), .str (S "_sre") 275, (.ref 12)⟩, ⟨H P (S "b1_set"), .str (S "b1_set") 343, (.ref 39)⟩, ⟨H P (S "in_table_b1"), .str (S "in_table_b1") 350, (.ref 49)⟩, ⟨H P (S "b3_exceptions"), .str (S "b3_exceptions") 2301, (.ref 50)⟩, ⟨H P (S "map_table_b3"), .str (S "map_table_b3") 2309, (.ref 95)⟩, ⟨H P (S "Error"), .str (S "Error") 2331, (.ref 105)⟩, ⟨H P (S "error_reply"), .str (S "error_reply") 2347, (.ref 118)⟩, ⟨H P (S "parse257"), .str (S "parse257") 2358, (.ref 127)⟩, ⟨H P (S "_twin_re_1"), .str (S "_twin_re_1") 2376, (.ref 132)⟩, ⟨H P (S "_twin_re_2"), .str (S "_twin_re_2") 2418, (.ref 137)⟩, ⟨H P (S "CRLF"), .str (S "CRLF") 2420, (.str (PySem.Str.mk #[13, 10]) 2419)⟩, ⟨H P (S "quotedata"), .str (S "quotedata") 2427, (.ref 144)⟩, ⟨H P (S "_law_unseen"), .str (S "_law_unseen") 2437, (.ref 151)⟩, ⟨H P (S "_law_two"), .str (S "_law_two") 2445, (.ref 158)⟩, ⟨H P (S "_law_three"), .str (S "_law_three") 2453, (.ref 165)⟩, ⟨H P (S "_law_signs"), .str (S "_law_signs") 2461, (.ref 172)⟩, ⟨H P (S "_law_grown"), .str (S "_law_grown") 2467, (.ref 177)⟩, ⟨H P (S "law"), .str (S "law") 2473, (.ref 182)⟩] 27), #[]⟩
noncomputable def h29s21 (P : Params) : Obj := ⟨.none, none, (.fields #[(.int 4 0), (.int 0 0), (.ref 48), (.int 7 0), (.int 0 0), (.ref 94), (.int 13 0), (.int 0 0), (.ref 101), (.int 15 0), (.int 0 0), (.ref 114), (.int 17 0), (.int 0 0), (.ref 126), (.int 38 0), (.int 0 0), (.ref 143), (.int 41 0), (.int 0 0), (.ref 150), (.int 44 0), (.int 0 0), (.ref 157), (.int 47 0), (.int 0 0), (.ref 164), (.int 50 0), (.int 0 0), (.ref 171), (.int 56 0), (.int 0 0), (.ref 176), (.int 79 0), (.int 0 0), (.ref 181)]), #[]⟩
noncomputable def h178s21 (P : Params) : Obj := ⟨(.type "tuple"), none, (.seq #[] 0), #[]⟩
noncomputable def h179s21 (P : Params) : Obj := ⟨.none, none, (.fields #[]), #[]⟩
noncomputable def h180s21 (P : Params) : Obj := ⟨.none, none, (.func { name := (S "law"), qualname := (S "law"), params := fpar21, body := .stmts fbody21, scope := fsco21, globals := 0, closure := [], defaults := .none, kwdefaults := .none, doc := .none, pyModule := .none, annotations := none, code := .none, closureTuple := .none, builtins := 0 }), #[]⟩
noncomputable def h181s21 (P : Params) : Obj := ⟨(.type "code"), none, (.fields #[(.str (S "law") 2468), (.str (S "law") 2469), (.str (S "/claim/cut.py") 2470), (.int 79 0), (.int 1 0), (.int 0 0), (.int 0 0), (.int 3 0), (.ref 178), (.bool true), (.int 276 0), (.ref 179), .none, .none, .none, (.ref 180), (.int 2471 0), (.int 79 0), (.str (S "/claim/cut.py") 2472)]), #[]⟩
noncomputable def h182s21 (P : Params) : Obj := ⟨(.type "function"), none, (.func { name := (S "law"), qualname := (S "law"), params := fpar21, body := .stmts fbody21, scope := fsco21, globals := 3, closure := [], defaults := .none, kwdefaults := .none, doc := .none, pyModule := (.str (S "law_tr0050_03") 2428), annotations := none, code := (.ref 181), closureTuple := .none, builtins := 0 }), #[]⟩
noncomputable def T21 (P : Params) : BT := treeOf [h0se P, h1se P, h2s7 P, h3s21 P, h4se P, h5se P, h6se P, h7se P, h8se P, h9se P, h10se P, h11s0 P, h12se P, h13se P, h14se P, h15se P, h16se P, h17se P, h18se P, h19se P, h20se P, h21se P, h22se P, h23se P, h24se P, h25se P, h26se P, h27se P, h28sa P, h29s21 P, h30sa P, h31sa P, h32s2 P, h33s2 P, h34s2 P, h35s2 P, h36s2 P, h37s2 P, h38s2 P, h39s2 P, h40s2 P, h41s2 P, h42s2 P, h43s3 P, h44s3 P, h45s3 P, h46s3 P, h47s3 P, h48s3 P, h49s3 P, h50s4 P, h51s4 P, h52s4 P, h53s4 P, h54s4 P, h55s4 P, h56s4 P, h57s4 P, h58s4 P, h59s4 P, h60s4 P, h61s4 P, h62s4 P, h63s4 P, h64s4 P, h65s4 P, h66s4 P, h67s4 P, h68s4 P, h69s4 P, h70s4 P, h71s4 P, h72s4 P, h73s4 P, h74s4 P, h75s4 P, h76s4 P, h77s4 P, h78s4 P, h79s4 P, h80s4 P, h81s4 P, h82s4 P, h83s4 P, h84s4 P, h85s4 P, h86s4 P, h87s4 P, h88s4 P, h89s5 P, h90s5 P, h91s5 P, h92s5 P, h93s5 P, h94s5 P, h95s5 P, h96s7 P, h97s7 P, h98s7 P, h99s7 P, h100s7 P, h101s7 P, h102s7 P, h103s7 P, h104s7 P, h105s8 P, h106s7 P, h107s7 P, h108s7 P, h109s8 P, h110s8 P, h111s8 P, h112s8 P, h113s8 P, h114s8 P, h115s8 P, h116s8 P, h117s8 P, h118s8 P, h119s8 P, h120s8 P, h121s9 P, h122s9 P, h123s9 P, h124s9 P, h125s9 P, h126s9 P, h127s9 P, h128s11 P, h129s11 P, h130s11 P, h131s11 P, h132s11 P, h133s12 P, h134s12 P, h135s12 P, h136s12 P, h137s12 P, h138s14 P, h139s14 P, h140s14 P, h141s14 P, h142s14 P, h143s14 P, h144s14 P, h145s16 P, h146s16 P, h147s16 P, h148s16 P, h149s16 P, h150s16 P, h151s16 P, h152s17 P, h153s17 P, h154s17 P, h155s17 P, h156s17 P, h157s17 P, h158s17 P, h159s18 P, h160s18 P, h161s18 P, h162s18 P, h163s18 P, h164s18 P, h165s18 P, h166s19 P, h167s19 P, h168s19 P, h169s19 P, h170s19 P, h171s19 P, h172s19 P, h173s20 P, h174s20 P, h175s20 P, h176s20 P, h177s20 P, h178s21 P, h179s21 P, h180s21 P, h181s21 P, h182s21 P]
noncomputable def Se (P : Params) (os : OsState) : SharedT := ⟨Te P, 28, {}, #[], {}, 276, os⟩
noncomputable def S0 (P : Params) (os : OsState) : SharedT := ⟨T0 P, 28, {}, #[], {}, 276, os⟩
noncomputable def Sa (P : Params) (os : OsState) : SharedT := ⟨Ta P, 32, {}, #[], {}, 282, os⟩
noncomputable def Sb (P : Params) (os : OsState) : SharedT := ⟨Tb P, 32, {}, #[], {}, 282, os⟩
noncomputable def S1 (P : Params) (os : OsState) : SharedT := ⟨T1 P, 32, {}, #[], {}, 284, os⟩
noncomputable def S2 (P : Params) (os : OsState) : SharedT := ⟨T2 P, 43, {}, #[], {}, 344, os⟩
noncomputable def S3 (P : Params) (os : OsState) : SharedT := ⟨T3 P, 50, {}, #[], {}, 351, os⟩
noncomputable def S4 (P : Params) (os : OsState) : SharedT := ⟨T4 P, 89, {}, #[], {}, 2302, os⟩
noncomputable def S5 (P : Params) (os : OsState) : SharedT := ⟨T5 P, 96, {}, #[], {}, 2310, os⟩
noncomputable def S6 (P : Params) (os : OsState) : SharedT := ⟨T6 P, 96, {}, #[], {}, 2312, os⟩
noncomputable def S7 (P : Params) (os : OsState) : SharedT := ⟨T7 P, 109, {}, #[], {}, 2332, os⟩
noncomputable def S8 (P : Params) (os : OsState) : SharedT := ⟨T8 P, 121, {}, #[], {}, 2348, os⟩
noncomputable def S9 (P : Params) (os : OsState) : SharedT := ⟨T9 P, 128, {}, #[], {}, 2359, os⟩
noncomputable def S10 (P : Params) (os : OsState) : SharedT := ⟨T10 P, 128, {}, #[], {}, 2361, os⟩
noncomputable def S11 (P : Params) (os : OsState) : SharedT := ⟨T11 P, 133, {}, #[], {}, 2377, os⟩
noncomputable def S12 (P : Params) (os : OsState) : SharedT := ⟨T12 P, 138, {}, #[], {}, 2419, os⟩
noncomputable def S13 (P : Params) (os : OsState) : SharedT := ⟨T13 P, 138, {}, #[], {}, 2421, os⟩
noncomputable def S14 (P : Params) (os : OsState) : SharedT := ⟨T14 P, 145, {}, #[], {}, 2428, os⟩
noncomputable def S15 (P : Params) (os : OsState) : SharedT := ⟨T15 P, 145, {}, #[], {}, 2430, os⟩
noncomputable def S16 (P : Params) (os : OsState) : SharedT := ⟨T16 P, 152, {}, #[], {}, 2438, os⟩
noncomputable def S17 (P : Params) (os : OsState) : SharedT := ⟨T17 P, 159, {}, #[], {}, 2446, os⟩
noncomputable def S18 (P : Params) (os : OsState) : SharedT := ⟨T18 P, 166, {}, #[], {}, 2454, os⟩
noncomputable def S19 (P : Params) (os : OsState) : SharedT := ⟨T19 P, 173, {}, #[], {}, 2462, os⟩
noncomputable def S20 (P : Params) (os : OsState) : SharedT := ⟨T20 P, 178, {}, #[], {}, 2468, os⟩
noncomputable def S21 (P : Params) (os : OsState) : SharedT := ⟨T21 P, 183, {}, #[], {}, 2474, os⟩
noncomputable def envE : Env := { scope := pw.main.scope, locals := mainNs, globals := mainNs, cells := [], code := .ref 30, frame := some 31 }
noncomputable abbrev cTop : Code := .body (behindTheImports pw) envE
theorem segT {w : World} {n : Nat} {s : SharedT} {l : List Stmt} {env : Env} {c : Code} {p : Pos} {B : List Frame} : segRunT treeTable pw w 28 (some (.ref 6)) 1 n s (piecesOf l env c p B) =
    PySem.W.Fast.tw10110043849684766642 PySem.W.Fast.tw14364793385576792824 pw w 28 (some (.ref 6)) 1 n s ⟨(PySem.W.Fast.tw12563942051412417395 l env).wrap doneF deadEnd id id, c, p, B⟩ := by
  rw [← PySem.W.Fast.te10110043849684766642, ← PySem.W.Fast.te14364793385576792824, ← PySem.W.Fast.te12563942051412417395]
theorem segRun_after {w : World} {s s' : SharedT} {t t' : Thread} {k : Nat} {f : Flow} (h : segGoT treeTable pw w 28 (some (.ref 6)) 1 k s t = some (s', t')) (e : endAt 1 t' = some f) :
    segRunT treeTable pw w 28 (some (.ref 6)) 1 (k + 1) s t = some (f, s', t'.code, t'.pos) := by
  induction k generalizing s t with
  | zero =>
    simp only [segGoT, Option.some.injEq, Prod.mk.injEq] at h
    obtain ⟨rfl, rfl⟩ := h
    unfold segRunT
    rw [e]
  | succ k ih =>
    unfold segGoT at h
    unfold segRunT
    cases e1 : endAt 1 t with
    | some f => rw [e1] at h; cases h
    | none =>
      rw [e1] at h
      cases e2 : stepOk 28 (some (.ref 6)) t with
      | false => rw [e2] at h; cases h
      | true =>
        rw [e2] at h
        cases e3 : stepT (denote treeTable) pw w s t with
        | none => rw [e3] at h; cases h
        | some st => rw [e3] at h; exact ih h
theorem seg1 (w : World) (os : OsState) : segRunT treeTable pw w 28 (some (.ref 6)) 1 10 (Sb w.params os) (piecesOf (stm 1) envE cTop ⟨0, 0, 0, 0⟩ dtop) = some (.next, S1 w.params os, cTop, ⟨2, 0, 2, 8⟩) := (segT ..).trans (by kernel_rfl)
theorem seg2ff (w : World) (os : OsState) : segRunT treeTable pw ((w.withFollow "special-get-raises" false).withFollow "set-order" false) 28 (some (.ref 6)) 1 999 (S1 ((w.withFollow "special-get-raises" false).withFollow "set-order" false).params os) (piecesOf (stm 2) envE cTop ⟨2, 0, 2, 8⟩ dtop) = some (.next, S2 ((w.withFollow "special-get-raises" false).withFollow "set-order" false).params os, cTop, ⟨3, 0, 3, 6⟩) := (segT ..).trans (by kernel_rfl)
theorem seg2ft (w : World) (os : OsState) : segRunT treeTable pw ((w.withFollow "special-get-raises" true).withFollow "set-order" false) 28 (some (.ref 6)) 1 999 (S1 ((w.withFollow "special-get-raises" true).withFollow "set-order" false).params os) (piecesOf (stm 2) envE cTop ⟨2, 0, 2, 8⟩ dtop) = some (.next, S2 ((w.withFollow "special-get-raises" true).withFollow "set-order" false).params os, cTop, ⟨3, 0, 3, 6⟩) := (segT ..).trans (by kernel_rfl)
theorem seg2tf (w : World) (os : OsState) : segRunT treeTable pw ((w.withFollow "special-get-raises" false).withFollow "set-order" true) 28 (some (.ref 6)) 1 999 (S1 ((w.withFollow "special-get-raises" false).withFollow "set-order" true).params os) (piecesOf (stm 2) envE cTop ⟨2, 0, 2, 8⟩ dtop) = some (.next, S2 ((w.withFollow "special-get-raises" false).withFollow "set-order" true).params os, cTop, ⟨3, 0, 3, 6⟩) := (segT ..).trans (by kernel_rfl)
theorem seg2tt (w : World) (os : OsState) : segRunT treeTable pw ((w.withFollow "special-get-raises" true).withFollow "set-order" true) 28 (some (.ref 6)) 1 999 (S1 ((w.withFollow "special-get-raises" true).withFollow "set-order" true).params os) (piecesOf (stm 2) envE cTop ⟨2, 0, 2, 8⟩ dtop) = some (.next, S2 ((w.withFollow "special-get-raises" true).withFollow "set-order" true).params os, cTop, ⟨3, 0, 3, 6⟩) := (segT ..).trans (by kernel_rfl)
theorem seg2 (w : World) (os : OsState) : segRunT treeTable pw w 28 (some (.ref 6)) 1 999 (S1 w.params os) (piecesOf (stm 2) envE cTop ⟨2, 0, 2, 8⟩ dtop) = some (.next, S2 w.params os, cTop, ⟨3, 0, 3, 6⟩) :=
  byRow2 "set-order" (P := fun w => segRunT treeTable pw w 28 (some (.ref 6)) 1 999 (S1 w.params os) (piecesOf (stm 2) envE cTop ⟨2, 0, 2, 8⟩ dtop) = some (.next, S2 w.params os, cTop, ⟨3, 0, 3, 6⟩)) (byRow2 "special-get-raises" (P := fun w => (fun w => segRunT treeTable pw w 28 (some (.ref 6)) 1 999 (S1 w.params os) (piecesOf (stm 2) envE cTop ⟨2, 0, 2, 8⟩ dtop) = some (.next, S2 w.params os, cTop, ⟨3, 0, 3, 6⟩)) (w.withFollow "set-order" false)) (fun w => seg2ff w os) (fun w => seg2ft w os)) (byRow2 "special-get-raises" (P := fun w => (fun w => segRunT treeTable pw w 28 (some (.ref 6)) 1 999 (S1 w.params os) (piecesOf (stm 2) envE cTop ⟨2, 0, 2, 8⟩ dtop) = some (.next, S2 w.params os, cTop, ⟨3, 0, 3, 6⟩)) (w.withFollow "set-order" true)) (fun w => seg2tf w os) (fun w => seg2tt w os)) w
theorem seg3 (w : World) (os : OsState) : segRunT treeTable pw w 28 (some (.ref 6)) 1 30 (S2 w.params os) (piecesOf (stm 3) envE cTop ⟨3, 0, 3, 6⟩ dtop) = some (.next, S3 w.params os, cTop, ⟨4, 0, 5, 30⟩) := (segT ..).trans (by kernel_rfl)
-- the dict display
noncomputable def b3asg : List Expr × List (Option Expr) × List Expr × Pos × Pos := match stm 4 with | [.Assign ts (.Dict ks vs p) q] => (ts, ks, vs, p, q) | _ => default
noncomputable def b3c0 : List (Int × PySem.Str) := b3pairs.take 17
noncomputable def b3cs : List (List (Int × PySem.Str)) := (List.range 37).map fun j => (b3pairs.drop (17 * j + 17)).take 17
noncomputable def b3last : List (Int × PySem.Str) := b3pairs.drop 646
noncomputable def ascB : List (Int × PySem.Str) → Bool
  | a :: b :: r => decide (a.1 < b.1) && ascB (b :: r)
  | _ => true
theorem asc_of : ∀ (l : List (Int × PySem.Str)), ascB l = true → l.Pairwise (fun a b => a.1 < b.1)
  | [], _ => .nil
  | [a], _ => List.pairwise_singleton _ _
  | a :: b :: r, h => by
    have h' : (decide (a.1 < b.1) && ascB (b :: r)) = true := h
    rw [Bool.and_eq_true, decide_eq_true_eq] at h'
    have ih := asc_of (b :: r) h'.2
    refine List.pairwise_cons.mpr ⟨fun q hq => ?_, ih⟩
    rcases List.mem_cons.mp hq with rfl | hq
    · exact h'.1
    · exact Int.lt_trans h'.1 ((List.pairwise_cons.mp ih).1 q hq)
noncomputable def b3all : List (Int × PySem.Str) := b3c0 ++ (b3cs.flatten ++ b3last)
theorem b3asc : b3all.Pairwise (fun a b => a.1 < b.1) := asc_of _ (by kernel_rfl)
theorem b3bound : ∀ q ∈ b3all, 0 ≤ q.1 ∧ q.1 < 2 ^ 60 := by
  have h : b3all.all (fun q => decide (0 ≤ q.1) && decide (q.1 < 2 ^ 60)) = true := by kernel_rfl
  intro q hq
  have := List.all_eq_true.mp h q hq
  rw [Bool.and_eq_true, decide_eq_true_eq, decide_eq_true_eq] at this
  exact this
theorem b3len : ∀ c ∈ b3cs, c.length = 17 := by
  have h : b3cs.all (fun c => c.length == 17) = true := by kernel_rfl
  intro c hc
  exact eq_of_beq (List.all_eq_true.mp h c hc)
theorem b3full (P : Params) : Full (T3 P) 50 := by
  have h : (List.range 50).all (fun m => ((T3 P).get m).isSome) = true := by kernel_rfl
  intro m hm
  exact List.all_eq_true.mp h m (List.mem_range.mpr hm)
theorem ev_b3 (w : World) (os : OsState) : Ev pw w cTop 12810 (sT os (T3 w.params) 50 351) b3asg.2.2.2.1 (dictDisplay (b3c0.map (it b3asg.2.2.2.1) ++ (b3cs.flatMap (fun c => c.map (it b3asg.2.2.2.1)) ++ b3last.map (it b3asg.2.2.2.1)))) (.ref 50)
      (sT os (finT (T3 w.params) 50 351 b3c0 b3cs b3last) (50 + 1 + b3cs.length + 1) (351 + 51 + 51 * b3cs.length + 3 * b3last.length)) b3asg.2.2.2.1 := by
  have hA := List.pairwise_append.mp b3asc
  have hB := List.pairwise_append.mp hA.2.1
  have hC := List.pairwise_flatten.mp hB.1
  have m1 : ∀ c ∈ b3cs, ∀ q ∈ c, q ∈ b3cs.flatten := fun c hc q hq => List.mem_flatten.mpr ⟨c, hc, hq⟩
  have l37 : b3cs.length = 37 := by kernel_rfl
  have l4 : b3last.length = 4 := by kernel_rfl
  refine Ev.le (ev_display (by decide) (b3full w.params) b3c0 b3cs b3last (by kernel_rfl) b3len (by intro h; rw [h] at l4; cases l4) (by rw [l4]; decide) (by rw [l37]; decide)
    (fun q hq => b3bound q (List.mem_append_left _ hq)) (fun c hc q hq => b3bound q (List.mem_append_right _ (List.mem_append_left _ (m1 c hc q hq)))) (fun q hq => b3bound q (List.mem_append_right _ (List.mem_append_right _ hq)))
    hA.1 hC.1 hB.2.1 (fun p hp c hc q hq => hA.2.2 p hp q (List.mem_append_left _ (m1 c hc q hq))) hC.2 (fun p hp q hq => hA.2.2 p hp q (List.mem_append_right _ hq)) (fun c hc p hp q hq => hB.2.2 p (m1 c hc p hp) q hq)) (by rw [l37]; decide)
theorem b3items : (evalEachOpt b3asg.2.1 envE).zip ((evalEach b3asg.2.2.1 envE).map fun v => do let x ← v; PySem.standAt b3asg.2.2.2.1; pure x) = b3c0.map (it b3asg.2.2.2.1) ++ (b3cs.flatMap (fun c => c.map (it b3asg.2.2.2.1)) ++ b3last.map (it b3asg.2.2.2.1)) := by kernel_rfl
noncomputable def Tm (P : Params) : BT := treeOf [h0se P, h1se P, h2se P, h3s3 P, h4se P, h5se P, h6se P, h7se P, h8se P, h9se P, h10se P, h11s0 P, h12se P, h13se P, h14se P, h15se P, h16se P, h17se P, h18se P, h19se P, h20se P, h21se P, h22se P, h23se P, h24se P, h25se P, h26se P, h27se P, h28sa P, h29s3 P, h30sa P, h31sa P, h32s2 P, h33s2 P, h34s2 P, h35s2 P, h36s2 P, h37s2 P, h38s2 P, h39s2 P, h40s2 P, h41s2 P, h42s2 P, h43s3 P, h44s3 P, h45s3 P, h46s3 P, h47s3 P, h48s3 P, h49s3 P, h50s4 P, h51s4 P, h52s4 P, h53s4 P, h54s4 P, h55s4 P, h56s4 P, h57s4 P, h58s4 P, h59s4 P, h60s4 P, h61s4 P, h62s4 P, h63s4 P, h64s4 P, h65s4 P, h66s4 P, h67s4 P, h68s4 P, h69s4 P, h70s4 P, h71s4 P, h72s4 P, h73s4 P, h74s4 P, h75s4 P, h76s4 P, h77s4 P, h78s4 P, h79s4 P, h80s4 P, h81s4 P, h82s4 P, h83s4 P, h84s4 P, h85s4 P, h86s4 P, h87s4 P, h88s4 P]
theorem bt_set_set (f g : Obj → Obj) : ∀ (T : BT) (d : Nat), (T.set d f).set d g = T.set d fun o => g (f o)
  | .nil, _ => rfl
  | .node v l r, d => by
    rw [BT.set_node, BT.set_node v l r d fun o => g (f o)]
    by_cases h : d = 0
    · rw [if_pos h, if_pos h, BT.set_node, if_pos h]
    · rw [if_neg h, if_neg h]
      by_cases q : d % 2 = 1
      · rw [if_pos q, if_pos q, BT.set_node, if_neg h, if_pos q, bt_set_set f g l]
      · rw [if_neg q, if_neg q, BT.set_node, if_neg h, if_neg q, bt_set_set f g r]
theorem bt_set_id (f : Obj → Obj) (hf : ∀ o, f o = o) : ∀ (T : BT) (d : Nat), T.set d f = T
  | .nil, _ => rfl
  | .node v l r, d => by
    rw [BT.set_node, hf, bt_set_id f hf l, bt_set_id f hf r]
    by_cases h : d = 0
    · rw [if_pos h]
    · rw [if_neg h]
      by_cases q : d % 2 = 1
      · rw [if_pos q]
      · rw [if_neg q]
noncomputable def pushL (l : List DictEntry) : Obj → Obj
  | ⟨c, d, .dict es n, x⟩ => ⟨c, d, .dict ⟨es.toList ++ l⟩ (n + l.length), x⟩
  | o => o
theorem pushL_nil (o : Obj) : pushL [] o = o := by
  obtain ⟨c, d, dt, x⟩ := o
  cases dt <;> first | rfl | (simp [pushL])
theorem pushL_cons (y : DictEntry) (l : List DictEntry) (o : Obj) : pushL l (Obj.mapDictKeys (·.push y) o) = pushL (y :: l) o := by
  obtain ⟨c, d, dt, x⟩ := o
  cases dt <;> first | rfl | (simp [pushL, Obj.mapDictKeys]; omega)
theorem pushAll_fast (d : Nat) : ∀ (l : List DictEntry) (T : BT), pushAll d T l = T.set d (pushL l)
  | [], T => (bt_set_id _ pushL_nil T d).symm
  | y :: l, T => by
    rw [pushAll, pushAll_fast d l, bt_set_set]
    exact congrArg (T.set d) (funext fun o => pushL_cons y l o)
noncomputable def chunksF (d : Nat) : BT → Nat → Nat → List (List (Int × PySem.Str)) → BT
  | T, _, _, [] => T
  | T, n, t, c :: cs => chunksF d (((T.ins n (dO #[] 0)).set n (pushL (entsAt3 t c))).set d (pushL (entsAt3 t c))) (n + 1) (t + 51) cs
theorem chunks_fast (d : Nat) : ∀ (cs : List (List (Int × PySem.Str))) (T : BT) (n t : Nat), chunksT d T n t cs = chunksF d T n t cs
  | [], _, _, _ => rfl
  | c :: cs, T, n, t => by
    rw [chunksT, chunksF, chunks_fast d cs]
    unfold chunkT
    rw [pushAll_fast, pushAll_fast]
noncomputable def finF (T : BT) (n t : Nat) (c0 : List (Int × PySem.Str)) (cs : List (List (Int × PySem.Str))) (last : List (Int × PySem.Str)) : BT :=
  ((((chunksF n ((T.ins n (dO #[] 0)).set n (pushL (entsAt3 t c0))) (n + 1) (t + 51) cs).ins (n + 1 + cs.length) (dO #[] 0)).set (n + 1 + cs.length) (pushL (entsAt2 (t + 51 + 51 * cs.length) last))).set n (pushL (entsAt2 (t + 51 + 51 * cs.length) last)))
theorem fin_fast (T : BT) (n t : Nat) (c0 : List (Int × PySem.Str)) (cs : List (List (Int × PySem.Str))) (last : List (Int × PySem.Str)) : finT T n t c0 cs last = finF T n t c0 cs last := by
  unfold finT finF
  dsimp only
  rw [pushAll_fast, pushAll_fast, pushAll_fast, chunks_fast]
theorem b3tree (P : Params) (os : OsState) : sT os (finT (T3 P) 50 351 b3c0 b3cs b3last) (50 + 1 + b3cs.length + 1) (351 + 51 + 51 * b3cs.length + 3 * b3last.length) = sT os (Tm P) 89 2301 := by
  rw [fin_fast (T3 P) 50 351 b3c0 b3cs b3last]
  kernel_rfl
theorem b3swap : swappedStores b3asg.1 (.Dict b3asg.2.1 b3asg.2.2.1 b3asg.2.2.2.1) envE = .pure none := by kernel_rfl
theorem b3store (w : World) (os : OsState) (K : Flow → Sem Fin) (H : Value → Sem Fin) (gd : Bool → Bool) (lv : List Value → List Value) :
    segGoT treeTable pw w 28 (some (.ref 6)) 1 7 (sT os (Tm w.params) 89 2301) ⟨(assignStores envE (.ref 50) none ((assignEach b3asg.1 envE).map (·.2))).wrap K H gd lv, cTop, b3asg.2.2.2.1, dtop⟩ =
      some (S4 w.params os, ⟨K .next, cTop, ⟨6, 0, 6, 13⟩, dtop⟩) := by kernel_rfl
theorem b3exec (w : World) (os : OsState) : Ev pw w cTop 12840 (S3 w.params os) ⟨4, 0, 5, 30⟩ (exec (.Assign b3asg.1 (.Dict b3asg.2.1 b3asg.2.2.1 b3asg.2.2.2.1) b3asg.2.2.2.2) envE) .next (S4 w.params os) ⟨6, 0, 6, 13⟩ := by
  refine Ev.le (B := 12830 + 1) ?_ (by decide)
  refine Ev.bind (B := 1) (B' := 12830) (Ev.stand Ev.pure) ?_
  rw [show swapsWithSole b3asg.1 (.Dict b3asg.2.1 b3asg.2.2.1 b3asg.2.2.2.1) b3asg.2.2.2.2.line envE = .pure false from by kernel_rfl]
  refine Ev.bind (B := 0) (B' := 12830) Ev.pure ?_
  refine Ev.le (B := 7 + 0 + 12811) ?_ (by decide)
  refine Ev.bind (a := .ref 50) (s' := sT os (Tm w.params) 89 2301) (p' := b3asg.2.2.2.1) ?_ (by rw [b3swap]; exact Ev.bind (B := 0) Ev.pure (Ev.all (b3store w os)))
  have h := ev_b3 w os
  rw [b3tree] at h
  show Ev pw w cTop 12811 _ _ ((PySem.standAt b3asg.2.2.2.1).bind fun _ => dictDisplay ((evalEachOpt b3asg.2.1 envE).zip ((evalEach b3asg.2.2.1 envE).map fun v => do let x ← v; PySem.standAt b3asg.2.2.2.1; pure x))) _ _ _
  rw [b3items]
  exact Ev.bind (B := 1) (B' := 12810) (Ev.stand Ev.pure) h
theorem seg4 (w : World) (os : OsState) : ∃ n, n ≤ 12841 ∧ segRunT treeTable pw w 28 (some (.ref 6)) 1 n (S3 w.params os) (piecesOf (stm 4) envE cTop ⟨4, 0, 5, 30⟩ dtop) = some (.next, S4 w.params os, cTop, ⟨6, 0, 6, 13⟩) := by
  obtain ⟨k, hk, h⟩ := b3exec w os
  refine ⟨k + 1, by omega, ?_⟩
  have hst : stm 4 = [.Assign b3asg.1 (.Dict b3asg.2.1 b3asg.2.2.1 b3asg.2.2.2.1) b3asg.2.2.2.2] := by kernel_rfl
  have h := h (fun f => (match f with | .next => (execs [] envE).wrap doneF deadEnd id id | f => doneF f)) deadEnd id id
  rw [hst]
  unfold piecesOf
  rw [execs_cons_wrap]
  exact segRun_after h rfl
theorem seg5 (w : World) (os : OsState) : segRunT treeTable pw w 28 (some (.ref 6)) 1 31 (S4 w.params os) (piecesOf (stm 5) envE cTop ⟨6, 0, 6, 13⟩ dtop) = some (.next, S5 w.params os, cTop, ⟨7, 0, 11, 23⟩) := (segT ..).trans (by kernel_rfl)
theorem seg6 (w : World) (os : OsState) : segRunT treeTable pw w 28 (some (.ref 6)) 1 10 (S5 w.params os) (piecesOf (stm 6) envE cTop ⟨7, 0, 11, 23⟩ dtop) = some (.next, S6 w.params os, cTop, ⟨12, 0, 12, 8⟩) := (segT ..).trans (by kernel_rfl)
theorem seg7 (w : World) (os : OsState) : segRunT treeTable pw w 28 (some (.ref 6)) 1 197 (S6 w.params os) (piecesOf (stm 7) envE cTop ⟨12, 0, 12, 8⟩ dtop) = some (.next, S7 w.params os, cTop, ⟨13, 0, 14, 8⟩) := (segT ..).trans (by kernel_rfl)
theorem seg8 (w : World) (os : OsState) : segRunT treeTable pw w 28 (some (.ref 6)) 1 214 (S7 w.params os) (piecesOf (stm 8) envE cTop ⟨13, 0, 14, 8⟩ dtop) = some (.next, S8 w.params os, cTop, ⟨15, 0, 16, 8⟩) := (segT ..).trans (by kernel_rfl)
theorem seg9 (w : World) (os : OsState) : segRunT treeTable pw w 28 (some (.ref 6)) 1 34 (S8 w.params os) (piecesOf (stm 9) envE cTop ⟨15, 0, 16, 8⟩ dtop) = some (.next, S9 w.params os, cTop, ⟨17, 0, 33, 18⟩) := (segT ..).trans (by kernel_rfl)
theorem seg10 (w : World) (os : OsState) : segRunT treeTable pw w 28 (some (.ref 6)) 1 10 (S9 w.params os) (piecesOf (stm 10) envE cTop ⟨17, 0, 33, 18⟩ dtop) = some (.next, S10 w.params os, cTop, ⟨34, 0, 34, 8⟩) := (segT ..).trans (by kernel_rfl)
theorem seg11 (w : World) (os : OsState) : segRunT treeTable pw w 28 (some (.ref 6)) 1 60 (S10 w.params os) (piecesOf (stm 11) envE cTop ⟨34, 0, 34, 8⟩ dtop) = some (.next, S11 w.params os, cTop, ⟨35, 0, 35, 10⟩) := (segT ..).trans (by kernel_rfl)
theorem seg12 (w : World) (os : OsState) : segRunT treeTable pw w 28 (some (.ref 6)) 1 86 (S11 w.params os) (piecesOf (stm 12) envE cTop ⟨35, 0, 35, 10⟩ dtop) = some (.next, S12 w.params os, cTop, ⟨36, 0, 36, 10⟩) := (segT ..).trans (by kernel_rfl)
theorem seg13 (w : World) (os : OsState) : segRunT treeTable pw w 28 (some (.ref 6)) 1 10 (S12 w.params os) (piecesOf (stm 13) envE cTop ⟨36, 0, 36, 10⟩ dtop) = some (.next, S13 w.params os, cTop, ⟨37, 0, 37, 4⟩) := (segT ..).trans (by kernel_rfl)
theorem seg14 (w : World) (os : OsState) : segRunT treeTable pw w 28 (some (.ref 6)) 1 30 (S13 w.params os) (piecesOf (stm 14) envE cTop ⟨37, 0, 37, 4⟩ dtop) = some (.next, S14 w.params os, cTop, ⟨38, 0, 39, 59⟩) := (segT ..).trans (by kernel_rfl)
theorem seg15 (w : World) (os : OsState) : segRunT treeTable pw w 28 (some (.ref 6)) 1 10 (S14 w.params os) (piecesOf (stm 15) envE cTop ⟨38, 0, 39, 59⟩ dtop) = some (.next, S15 w.params os, cTop, ⟨40, 0, 40, 8⟩) := (segT ..).trans (by kernel_rfl)
theorem seg16 (w : World) (os : OsState) : segRunT treeTable pw w 28 (some (.ref 6)) 1 31 (S15 w.params os) (piecesOf (stm 16) envE cTop ⟨40, 0, 40, 8⟩ dtop) = some (.next, S16 w.params os, cTop, ⟨41, 0, 43, 59⟩) := (segT ..).trans (by kernel_rfl)
theorem seg17 (w : World) (os : OsState) : segRunT treeTable pw w 28 (some (.ref 6)) 1 31 (S16 w.params os) (piecesOf (stm 17) envE cTop ⟨41, 0, 43, 59⟩ dtop) = some (.next, S17 w.params os, cTop, ⟨44, 0, 46, 23⟩) := (segT ..).trans (by kernel_rfl)
theorem seg18 (w : World) (os : OsState) : segRunT treeTable pw w 28 (some (.ref 6)) 1 31 (S17 w.params os) (piecesOf (stm 18) envE cTop ⟨44, 0, 46, 23⟩ dtop) = some (.next, S18 w.params os, cTop, ⟨47, 0, 49, 23⟩) := (segT ..).trans (by kernel_rfl)
theorem seg19 (w : World) (os : OsState) : segRunT treeTable pw w 28 (some (.ref 6)) 1 31 (S18 w.params os) (piecesOf (stm 19) envE cTop ⟨47, 0, 49, 23⟩ dtop) = some (.next, S19 w.params os, cTop, ⟨50, 0, 55, 43⟩) := (segT ..).trans (by kernel_rfl)
theorem seg20 (w : World) (os : OsState) : segRunT treeTable pw w 28 (some (.ref 6)) 1 27 (S19 w.params os) (piecesOf (stm 20) envE cTop ⟨50, 0, 55, 43⟩ dtop) = some (.next, S20 w.params os, cTop, ⟨56, 0, 78, 16⟩) := (segT ..).trans (by kernel_rfl)
theorem seg21 (w : World) (os : OsState) : segRunT treeTable pw w 28 (some (.ref 6)) 1 27 (S20 w.params os) (piecesOf (stm 21) envE cTop ⟨56, 0, 78, 16⟩ dtop) = some (.next, S21 w.params os, cTop, ⟨79, 0, 100, 29⟩) := (segT ..).trans (by kernel_rfl)
end Mine

end
section
open PySem PySem.W PyProof.Rows
set_option Elab.async false
set_option maxRecDepth 100000
set_option linter.unusedVariables false
namespace Mine
-- the load's opening
noncomputable def impF (st : SharedT → Thread → Option (SharedT × Thread)) : Nat → SharedT → Thread → Option SharedT
  | 0, _, _ => none
  | n + 1, s, t => match t.atExitBegin with
    | some [] => some s
    | some (_ :: _) => none
    | none => match st s t with
      | some (s', t') => impF st n s' t'
      | none => none
theorem impF_of {tb : String → Option Builtin} {p : Program} {w : World} : ∀ {n : Nat} {s s' : SharedT} {t : Thread}, impF (stepT (denote tb) p w) n s t = some s' → importEnds tb p w n s.abs t = some s'.abs
  | 0, _, _, _, h => by cases h
  | n + 1, s, s', t, h => by
    unfold impF at h
    unfold importEnds
    cases e : t.atExitBegin with
    | some l =>
      rw [e] at h
      cases l with
      | nil => cases h; rfl
      | cons => cases h
    | none =>
      rw [e] at h
      cases hs : stepT (denote tb) p w s t with
      | none => rw [hs] at h; cases h
      | some r => obtain ⟨s₂, t₂⟩ := r; rw [hs] at h; dsimp only; rw [stepT_spec hs]; exact impF_of h
noncomputable def Sz' (os : OsState) : SharedT := ⟨.nil, 0, {}, #[], {}, 1, os⟩
theorem imp_run (w : World) (os : OsState) : impF (stepT (denote treeTable) (opening pw) w) 799 (Sz' os) (start (opening pw)).2 = some (Se w.params os) := by
  rw [show stepT (denote treeTable) (opening pw) w = PySem.W.Fast.tw10156331382660048174 (PySem.W.Fast.tw11892475500146522536 PySem.W.Fast.tw14364793385576792824) (opening pw) w from by
    rw [PySem.W.Fast.te10156331382660048174, PySem.W.Fast.te11892475500146522536, PySem.W.Fast.te14364793385576792824]]
  kernel_rfl
noncomputable def He (P : Params) : Heap := absHeap (Te P) 28 {}
noncomputable def H0 (P : Params) : Heap := absHeap (T0 P) 28 {}
noncomputable def H1 (P : Params) : Heap := absHeap (T21 P) 183 {}
theorem open1 (w : World) : importEnds treeTable (opening pw) w 799 (start (opening pw)).1 (start (opening pw)).2 = some ⟨He w.params, #[], {}, 276, (start (opening pw)).1.os⟩ := by
  have h := impF_of (imp_run w (start (opening pw)).1.os)
  rw [show (Sz' (start (opening pw)).1.os).abs = (start (opening pw)).1 from by kernel_rfl] at h
  exact h.trans (by kernel_rfl)
theorem fence1 (w : World) : (fun os => (fenceModules? pw ⟨He w.params, #[], {}, 276, os⟩).map (fun s => (s.heap, s.gens, s.drawn, s.toks))) = fun _ => some (H0 w.params, #[], {}, 276) := by
  funext os
  rw [show fenceModules? = PySem.W.Fast.tw14289696077712309145 from by rw [PySem.W.Fast.te14289696077712309145]]
  kernel_rfl
theorem open2 : ∀ w : World, (fencedOpening treeTable pw w 30000).map (fun s => (s.heap, s.gens, s.drawn, s.toks)) = some (H0 w.params, #[], {}, 276) :=
  open_cut open1 (by decide) fence1
theorem size1 (w : World) : ((H0 w.params).isNs mainGlobals && (#[] : Array GenState).size == 0, (H0 w.params).objs.size, (H0 w.params).nsMap mainGlobals "__annotations__") = (true, 28, some (.ref 6)) := by kernel_rfl
theorem pre1 (w : World) (os : OsState) : topGo treeTable pw w 28 (some (.ref 6)) 12 (S0 w.params os).abs (topStub pw) = some ((Sa w.params os).abs, ⟨denote treeTable cTop, cTop, ⟨0, 0, 0, 0⟩, dtop⟩) := by
  rw [show topGo = PySem.W.Fast.tw15667345088766844465 from by rw [PySem.W.Fast.te15667345088766844465], show denote = PySem.W.Fast.tw11892475500146522536 from by rw [PySem.W.Fast.te11892475500146522536], show treeTable = PySem.W.Fast.tw14364793385576792824 from by rw [PySem.W.Fast.te14364793385576792824]]
  kernel_rfl
theorem block1 (w : World) (os : OsState) : segRun treeTable pw w 28 (some (.ref 6)) 1 1 (Sa w.params os).abs (blockOf (behindTheImports pw) envE cTop ⟨0, 0, 0, 0⟩ dtop) = some (.next, (Sb w.params os).abs, cTop, ⟨0, 0, 0, 0⟩) := by kernel_rfl
theorem fin1 (w : World) (os : OsState) : topRun treeTable pw w 28 (some (.ref 6)) 2 (S21 w.params os).abs ⟨doneF .next, cTop, ⟨79, 0, 100, 29⟩, dtop⟩ = some (S21 w.params os).abs := by kernel_rfl
theorem body1 : behindTheImports pw = stm 1 ++ (stm 2 ++ (stm 3 ++ (stm 4 ++ (stm 5 ++ (stm 6 ++ (stm 7 ++ (stm 8 ++ (stm 9 ++ (stm 10 ++ (stm 11 ++ (stm 12 ++ (stm 13 ++ (stm 14 ++ (stm 15 ++ (stm 16 ++ (stm 17 ++ (stm 18 ++ (stm 19 ++ (stm 20 ++ (stm 21 ++ [])))))))))))))))))))) := by kernel_rfl
theorem sum1 (n : Nat) (hn : n ≤ 12841) : ∃ j, 12 + (1 + (10 + (999 + (30 + (n + (31 + (10 + (197 + (214 + (34 + (10 + (60 + (86 + (10 + (30 + (10 + (31 + (31 + (31 + (31 + (27 + (27 + 2)))))))))))))))))))))) + j = 20000 := ⟨20000 - (12 + (1 + (10 + (999 + (30 + (n + (31 + (10 + (197 + (214 + (34 + (10 + (60 + (86 + (10 + (30 + (10 + (31 + (31 + (31 + (31 + (27 + (27 + 2))))))))))))))))))))))), by omega⟩
theorem run1 (w : World) (os : OsState) : topRun treeTable pw w 28 (some (.ref 6)) 20000 ⟨H0 w.params, #[], {}, 276, os⟩ (topStub pw) = some ⟨H1 w.params, #[], {}, 2474, os⟩ := by
  obtain ⟨n, hn, hd⟩ := seg4 w os
  have k := piece_nil (env := envE) (fin1 w os)
  have k := piece_app (segRun_of (seg21 w os)) k
  have k := piece_app (segRun_of (seg20 w os)) k
  have k := piece_app (segRun_of (seg19 w os)) k
  have k := piece_app (segRun_of (seg18 w os)) k
  have k := piece_app (segRun_of (seg17 w os)) k
  have k := piece_app (segRun_of (seg16 w os)) k
  have k := piece_app (segRun_of (seg15 w os)) k
  have k := piece_app (segRun_of (seg14 w os)) k
  have k := piece_app (segRun_of (seg13 w os)) k
  have k := piece_app (segRun_of (seg12 w os)) k
  have k := piece_app (segRun_of (seg11 w os)) k
  have k := piece_app (segRun_of (seg10 w os)) k
  have k := piece_app (segRun_of (seg9 w os)) k
  have k := piece_app (segRun_of (seg8 w os)) k
  have k := piece_app (segRun_of (seg7 w os)) k
  have k := piece_app (segRun_of (seg6 w os)) k
  have k := piece_app (segRun_of (seg5 w os)) k
  have k := piece_app (segRun_of (hd)) k
  have k := piece_app (segRun_of (seg3 w os)) k
  have k := piece_app (segRun_of (seg2 w os)) k
  have k := piece_app (segRun_of (seg1 w os)) k
  rw [← body1] at k
  have k := go_top (pre1 w os) (piece_block (block1 w os) k)
  have m := fun j => topRun_mono j _ _ _ _ k
  obtain ⟨j, hj⟩ := sum1 n hn
  have m := m j
  rw [hj] at m
  have e0 : (⟨H0 w.params, #[], {}, 276, os⟩ : Shared) = (S0 w.params os).abs := by kernel_rfl
  have e1 : (S21 w.params os).abs = ⟨H1 w.params, #[], {}, 2474, os⟩ := by kernel_rfl
  rw [e0, ← e1]
  exact m
theorem look1 (w : World) (os : OsState) : (staticsOk (importedModules pw.main.body) (H0 w.params) (H1 w.params) && namesBound pw (H1 w.params) && gensDone ⟨H1 w.params, #[], {}, 2474, os⟩ && laidKept (H0 w.params) (H1 w.params)) = true := by kernel_rfl
noncomputable abbrev SS (w : World) (os : OsState) : Shared := ⟨H1 w.params, #[], {}, 2474, os⟩
theorem lk1 (w : World) (os : OsState) : seen ((recsOf q01).map (·.name)) (ownsOf q01) [] { SS w os with gens := #[] } = expectedOf q01 := by kernel_rfl
theorem lk2 (w : World) (os : OsState) : (SS w os).heap.bltView = bltViewBooted := by kernel_rfl
theorem lk3a (w : World) (os : OsState) : (SS w os).heap.keysOk (looseW q01 loose01) ((recsOf q01).map (·.name)) ((litsOf q01).map (·.1)) ((clssOf q01 (looseW q01 loose01)).map (·.name)) = true := by kernel_rfl
theorem lk3b (w : World) (os : OsState) : (SS w os).heap.accountedOkI (importedModules pw.main.body) = true := by kernel_rfl
theorem lk3c (w : World) (os : OsState) : (SS w os).heap.isNs mainGlobals = true := by kernel_rfl
theorem lk3d (w : World) (os : OsState) : (SS w os).heap.isNs builtinsNs = true := by kernel_rfl
/-- the keys rise -/
noncomputable def riseI : Int → List (PyData × PyData) → Bool
  | _, [] => true
  | j, (.int k, _) :: D => decide (j < k) && riseI k D
  | _, _ => false
theorem rise_no : ∀ (D : List (PyData × PyData)) (i j : Int), i ≤ j → riseI j D = true → hasIntKey i D = false
  | [], _, _, _, _ => rfl
  | (.int k, d) :: D, i, j, hij, h => by
    unfold riseI at h
    rw [Bool.and_eq_true, decide_eq_true_eq] at h
    unfold hasIntKey
    have hk : (k == i) = false := by
      rw [beq_eq_false_iff_ne]; omega
    rw [hk, Bool.false_or]
    exact rise_no D i k (by omega) h.2
theorem rise_apart : ∀ (D : List (PyData × PyData)) (j : Int), riseI j D = true → keysApartInt D = true
  | [], _, _ => rfl
  | (.int k, d) :: D, j, h => by
    unfold riseI at h
    rw [Bool.and_eq_true] at h
    unfold keysApartInt
    rw [rise_no D k k (Int.le_refl _) h.2, rise_apart D k h.2]
    rfl
theorem and_t {a b : Bool} (x : a = true) (y : b = true) : (a && b) = true := by rw [x, y]; rfl
theorem or_t {a b : Bool} (y : b = true) : (a || b) = true := by rw [y]; cases a <;> rfl
noncomputable abbrev pdat (p : Int × PySem.Str) : PyData × PyData := (PyData.int p.1, PyData.str p.2)
theorem ents3_ok : ∀ (ps : List (Int × PySem.Str)) (t : Nat) (es : List DictEntry) (D : List (PyData × PyData)), (ps.all fun p => p.1 == hashInt p.1) = true → entriesAreInt es D = true → entriesAreInt (entsAt3 t ps ++ es) (ps.map pdat ++ D) = true
  | [], _, _, _, _, h => h
  | (i, x) :: ps, t, es, D, hh, h => by
    rw [List.all_cons, Bool.and_eq_true] at hh
    exact and_t (and_t (and_t (beq_self_eq_true i) hh.1) (beq_self_eq_true x)) (ents3_ok ps (t + 3) es D hh.2 h)
theorem ents2_ok : ∀ (ps : List (Int × PySem.Str)) (t : Nat), (ps.all fun p => p.1 == hashInt p.1) = true → entriesAreInt (entsAt2 t ps) (ps.map pdat) = true
  | [], _, _ => rfl
  | (i, x) :: ps, t, hh => by
    rw [List.all_cons, Bool.and_eq_true] at hh
    exact and_t (and_t (and_t (beq_self_eq_true i) hh.1) (beq_self_eq_true x)) (ents2_ok ps (t + 2) hh.2)
noncomputable def b3D : List (PyData × PyData) := b3pairs.map pdat
theorem b3_apart : keysApartInt b3D = true := rise_apart b3D 0 (by kernel_rfl)
theorem b3_tab : tabIntOf q01 (S "b3_exceptions") = some b3D := by kernel_rfl
theorem b3_hash : (b3pairs.all fun p => p.1 == hashInt p.1) = true := by kernel_rfl
theorem b3_ents : entriesAreInt (entsAt3 351 (b3pairs.take 646) ++ entsAt2 2289 (b3pairs.drop 646)) b3D = true := by
  have h := b3_hash
  rw [List.all_eq_true] at h
  have e : b3D = (b3pairs.take 646).map pdat ++ (b3pairs.drop 646).map pdat := by
    rw [← List.map_append, List.take_append_drop]; rfl
  rw [e]
  exact ents3_ok _ _ _ _ (List.all_eq_true.mpr fun p hp => h p (List.mem_of_mem_take hp)) (ents2_ok _ _ (List.all_eq_true.mpr fun p hp => h p (List.mem_of_mem_drop hp)))
theorem b3_name (w : World) (os : OsState) : (SS w os).heap.nsMap mainGlobals (S "b3_exceptions") = some (.ref 50) := by kernel_rfl
theorem b3_obj (w : World) (os : OsState) : (SS w os).heap.get? 50 = some (dO (entsAt3 351 (b3pairs.take 646) ++ entsAt2 2289 (b3pairs.drop 646)).toArray 650) := by kernel_rfl
theorem b3_tabok (w : World) (os : OsState) : (SS w os).heap.tabIntOk (S "b3_exceptions") b3D = true := by
  unfold Heap.tabIntOk
  rw [b3_name w os]
  dsimp only
  rw [b3_obj w os]
  exact and_t (and_t (and_t rfl b3_ents) b3_apart) (by decide)
theorem b3_nm : valNames q01 = [S "b1_set", S "b3_exceptions", S "_twin_re_1", S "_twin_re_2", S "CRLF"] := by kernel_rfl
theorem lk3e (w : World) (os : OsState) : tablesOk q01 (SS w os).heap = true := by
  unfold tablesOk
  rw [b3_nm]
  refine and_t (by kernel_rfl) (and_t ?_ (and_t (by kernel_rfl) (and_t (by kernel_rfl) (and_t (by kernel_rfl) rfl))))
  dsimp only
  rw [b3_tab]
  exact and_t (by kernel_rfl) (b3_tabok w os)
theorem lk3f (w : World) (os : OsState) : Xt01 (SS w os) = true := by kernel_rfl
theorem lk4a (w : World) (os : OsState) : ((recsOf q01).all fun d => (SS w os).heap.tab0Ok d.name) = true := by kernel_rfl
theorem lk4b (w : World) (os : OsState) : (SS w os).heap.bmainOk = true := by kernel_rfl
theorem lk4c (w : World) (os : OsState) : valsOk q01 (SS w os).heap = true := by kernel_rfl
theorem lk4d (w : World) (os : OsState) : (SS w os).heap.noSeerOk = true := by kernel_rfl
theorem lk5 (w : World) (os : OsState) : pinSeenD q01 (drecsOf q01) (SS w os) = pinGoodD (drecsOf q01) := by kernel_rfl
theorem lk6 (w : World) (os : OsState) : plainSeenE q01 (looseW q01 loose01) (SS w os) = plainGoodE q01 (looseW q01 loose01) := by kernel_rfl
theorem lk7 (w : World) (os : OsState) : plainSeenD q01 loose01 (SS w os) = plainGoodD q01 loose01 := by kernel_rfl
theorem lk8 (w : World) (os : OsState) : wideSeen q01 (SS w os) = wideGood q01 := by kernel_rfl
theorem lk9 (w : World) (os : OsState) : clsSeenW q01 loose01 (SS w os) = clsGoodW q01 loose01 := by kernel_rfl
theorem tup9 {α β γ δ ε ζ η θ ι : Type} {a a' : α} {b b' : β} {c c' : γ} {d d' : δ} {e e' : ε} {f f' : ζ} {g g' : η} {h h' : θ} {i i' : ι} (h1 : a = a') (h2 : b = b') (h3 : c = c') (h4 : d = d') (h5 : e = e') (h6 : f = f') (h7 : g = g') (h8 : h = h') (h9 : i = i') :
    (a, b, c, d, e, f, g, h, i) = (a', b', c', d', e', f', g', h', i') := by subst h1 h2 h3 h4 h5 h6 h7 h8 h9; rfl
theorem lk4 (w : World) (os : OsState) : tabsOk q01 (SS w os) = true := and_t (and_t (and_t (lk4a w os) (lk4b w os)) (lk4c w os)) (or_t (lk4d w os))
theorem look2 (w : World) (os : OsState) : openSeen q01 loose01 (importedModules pw.main.body) Xt01 true ⟨H1 w.params, #[], {}, 2474, os⟩ = openGood q01 loose01 :=
  tup9 (lk1 w os) (lk2 w os) (and_t (and_t (and_t (and_t (and_t (and_t (lk3a w os) (lk3b w os)) (lk3c w os)) (lk3d w os)) (lk3e w os)) (lk3f w os)) rfl) (lk4 w os) (lk5 w os) (lk6 w os) (lk7 w os) (lk8 w os) (lk9 w os)
theorem look3 (w : World) (os : OsState) : Hook.obs HK ⟨H1 w.params, #[], {}, 2474, os⟩ = Hook.val HK w := by kernel_rfl
theorem looks1 (w : World) : (fun os => ((staticsOk (importedModules pw.main.body) (H0 w.params) (H1 w.params) && namesBound pw (H1 w.params) && gensDone ⟨H1 w.params, #[], {}, 2474, os⟩ && laidKept (H0 w.params) (H1 w.params)),
        openSeen q01 loose01 (importedModules pw.main.body) Xt01 true ⟨H1 w.params, #[], {}, 2474, os⟩, Hook.obs HK ⟨H1 w.params, #[], {}, 2474, os⟩)) = fun _ => (true, openGood q01 loose01, Hook.val HK w) := by
  funext os
  rw [look1 w os, look2 w os, look3 w os]
theorem head : LeftO pw q01 loose01 Xt01 (Hook.obs HK) (Hook.val HK) 30000 :=
  LeftO.of_pieces open2 size1 run1 (by decide) looks1
end Mine

end
section
open PySem PySem.W PyProof.Rows
set_option Elab.async false
set_option maxRecDepth 100000
set_option linter.unusedVariables false
namespace Mine


noncomputable def c1 : Array Nat := #[14, 4, 0, 1, 1, 6, 1, 16, 46, 1]
noncomputable def c2 : Array Nat := #[14, 9, 4, 1, 2, 16, 10, 16, 13, 0, 7, 7, 16, 13, 16, 10, 15, 18, 5, 16, 10, 15, 13, 11, 16, 13, 5, 5, 0, 16, 10, 1, 15, 2, 0, 1]

theorem runFor_stop {m : Sre.M} (h : m.outcome.isSome = true) : ∀ n, Sre.M.runFor n m = m
  | 0 => rfl
  | n + 1 => by unfold Sre.M.runFor; rw [if_pos h]
theorem runFor_succ {m : Sre.M} (h : m.outcome = none) (n : Nat) : Sre.M.runFor (n + 1) m = Sre.M.runFor n m.step := by
  conv => lhs; unfold Sre.M.runFor
  rw [h]; rfl
theorem runFor_add : ∀ (a b : Nat) (m : Sre.M), Sre.M.runFor (a + b) m = Sre.M.runFor b (Sre.M.runFor a m)
  | 0, b, m => by rw [Nat.zero_add]; rfl
  | a + 1, b, m => by
    rw [show a + 1 + b = (a + b) + 1 by omega]
    cases h : m.outcome with
    | some o =>
      have hs : m.outcome.isSome = true := by rw [h]; rfl
      rw [runFor_stop hs, runFor_stop hs, runFor_stop hs]
    | none => rw [runFor_succ h, runFor_succ h, runFor_add a b]

/-- m comes to m' in at most b steps -/
noncomputable def Comes (b : Nat) (m m' : Sre.M) : Prop := ∃ n, n ≤ b ∧ Sre.M.runFor n m = m'
theorem Comes.trans {a b : Nat} {x y z : Sre.M} (h : Comes a x y) (k : Comes b y z) : Comes (a + b) x z := by
  obtain ⟨n, hn, e⟩ := h
  obtain ⟨m, hm, e'⟩ := k
  exact ⟨n + m, by omega, by rw [runFor_add, e, e']⟩
theorem Comes.le {a b : Nat} {x y : Sre.M} (h : Comes a x y) (l : a ≤ b) : Comes b x y := by
  obtain ⟨n, hn, e⟩ := h
  exact ⟨n, Nat.le_trans hn l, e⟩
theorem Comes.one {x y : Sre.M} (h : x.outcome = none) (e : x.step = y) : Comes 1 x y := ⟨1, Nat.le_refl _, by rw [runFor_succ h, e]; rfl⟩

noncomputable abbrev fr0 (pc s : Nat) (o : Bool) : Sre.Frame := { wait := .nextStart, pc := pc, pos := s, outermost := o }
/-- pattern 1 about to try at s -/
noncomputable def m1 (text : Array Nat) (lim s : Nat) (o : Bool) (h : Nat) (seen : Sre.Seen) (pc pos : Nat) (ans : Option Bool) (frames : List Sre.Frame) (w : Nat) (out : Option Sre.Outcome) : Sre.M :=
  { code := c1, text, lim, start := s, lastStart := lim, wholeText := false, mustAdvance := false, pc, pos, handed := h, outermost := o, marks := #[], lastmark := -1, lastindex := -1, loops := #[], inner := none, frames, weight := w, answer := ans, seen, outcome := out }

theorem s1_at (text : Array Nat) (lim s : Nat) (o : Bool) (seen : Sre.Seen) :
    (m1 text lim s o s seen 5 s none [fr0 5 s o] 1 none).step =
      (if (s == 0 || text.getD (s - 1) 0 == 10) = true then m1 text lim s o s ((seen.add 6).add 44) 7 s none [fr0 5 s o] 1 none
        else m1 text lim s o s ((seen.add 6).add 44) 5 s (some false) [fr0 5 s o] 1 none) := by kernel_rfl
theorem s1_lit (text : Array Nat) (lim s : Nat) (o : Bool) (seen : Sre.Seen) :
    (m1 text lim s o s seen 7 s none [fr0 5 s o] 1 none).step =
      (if s ≥ lim then m1 text lim s o s (seen.add 16) 7 s (some false) [fr0 5 s o] 1 none
        else match (text.getD s 0 == 46) with
          | true => m1 text lim s o s (seen.add 16) 9 (s + 1) none [fr0 5 s o] 1 none
          | false => m1 text lim s o s (seen.add 16) 7 s (some false) [fr0 5 s o] 1 none) := by kernel_rfl
theorem s1_back (text : Array Nat) (lim s pc : Nat) (o : Bool) (seen : Sre.Seen) :
    (m1 text lim s o s seen pc s (some false) [fr0 5 s o] 1 none).step =
      (if s < lim then m1 text lim (s + 1) false (s + 1) seen 5 (s + 1) none [fr0 5 (s + 1) false] 1 none
        else m1 text lim s o s seen 5 s (some false) [] 0 none) := by kernel_rfl
theorem s1_fail (text : Array Nat) (lim s : Nat) (o : Bool) (seen : Sre.Seen) :
    (m1 text lim s o s seen 5 s (some false) [] 0 none).step = m1 text lim s o s seen 5 s (some false) [] 0 (some .failed) := by kernel_rfl
theorem s1_ok (text : Array Nat) (lim s : Nat) : ∀ (o : Bool) (seen : Sre.Seen),
    (m1 text lim s o s seen 9 (s + 1) none [fr0 5 s o] 1 none).step = m1 text lim s o (s + 1) (seen.add 1) 9 (s + 1) (some true) [fr0 5 s o] 1 none
  | true, seen => by kernel_rfl
  | false, seen => by kernel_rfl
theorem s1_yes (text : Array Nat) (lim s : Nat) (o : Bool) (seen : Sre.Seen) :
    (m1 text lim s o (s + 1) seen 9 (s + 1) (some true) [fr0 5 s o] 1 none).step = m1 text lim s o (s + 1) seen 5 s (some true) [] 0 none := by kernel_rfl
theorem s1_end (text : Array Nat) (lim s : Nat) (o : Bool) (seen : Sre.Seen) :
    (m1 text lim s o (s + 1) seen 5 s (some true) [] 0 none).step = m1 text lim s o (s + 1) seen 5 s (some true) [] 0 (some .matched) := by kernel_rfl

noncomputable def hit1 (text : Array Nat) (s : Nat) : Bool := (s == 0 || text.getD (s - 1) 0 == 10) && text.getD s 0 == 46
noncomputable abbrev at1 (text : Array Nat) (lim s : Nat) (o : Bool) (seen : Sre.Seen) : Sre.M := m1 text lim s o s seen 5 s none [fr0 5 s o] 1 none
noncomputable abbrev won1 (text : Array Nat) (lim s : Nat) (o : Bool) (seen : Sre.Seen) : Sre.M := m1 text lim s o (s + 1) seen 5 s (some true) [] 0 (some .matched)
noncomputable abbrev lost1 (text : Array Nat) (lim s : Nat) (o : Bool) (seen : Sre.Seen) : Sre.M := m1 text lim s o s seen 5 s (some false) [] 0 (some .failed)

theorem try1 (text : Array Nat) (lim s : Nat) (o : Bool) (seen : Sre.Seen) :
    (s < lim ∧ hit1 text s = true ∧ ∃ seen', Comes 5 (at1 text lim s o seen) (won1 text lim s o seen')) ∨
    (s < lim ∧ hit1 text s = false ∧ ∃ seen', Comes 3 (at1 text lim s o seen) (at1 text lim (s + 1) false seen')) ∨
    (¬ s < lim ∧ ∃ seen', Comes 4 (at1 text lim s o seen) (lost1 text lim s o seen')) := by
  have A := Comes.one (x := at1 text lim s o seen) rfl (s1_at text lim s o seen)
  by_cases hl : s < lim
  · by_cases ha : (s == 0 || text.getD (s - 1) 0 == 10) = true
    · rw [if_pos ha] at A
      have B := Comes.one (x := m1 text lim s o s ((seen.add 6).add 44) 7 s none [fr0 5 s o] 1 none) rfl (s1_lit text lim s o ((seen.add 6).add 44))
      rw [if_neg (by omega)] at B
      cases hc : (text.getD s 0 == 46) with
      | true =>
        rw [hc] at B
        refine .inl ⟨hl, by unfold hit1; rw [ha, hc]; rfl, _, (((A.trans B).trans (Comes.one rfl (s1_ok text lim s o _))).trans (Comes.one rfl (s1_yes text lim s o _))).trans (Comes.one rfl (s1_end text lim s o _))⟩
      | false =>
        rw [hc] at B
        have C := Comes.one (x := m1 text lim s o s (((seen.add 6).add 44).add 16) 7 s (some false) [fr0 5 s o] 1 none) rfl (s1_back text lim s 7 o _)
        rw [if_pos hl] at C
        exact .inr (.inl ⟨hl, by unfold hit1; rw [hc, Bool.and_false], _, (A.trans B).trans C⟩)
    · rw [if_neg ha] at A
      have C := Comes.one (x := m1 text lim s o s ((seen.add 6).add 44) 5 s (some false) [fr0 5 s o] 1 none) rfl (s1_back text lim s 5 o _)
      rw [if_pos hl] at C
      exact .inr (.inl ⟨hl, by unfold hit1; rw [Bool.not_eq_true] at ha; rw [ha, Bool.false_and], _, (A.trans C).le (by omega)⟩)
  · refine .inr (.inr ⟨hl, ?_⟩)
    by_cases ha : (s == 0 || text.getD (s - 1) 0 == 10) = true
    · rw [if_pos ha] at A
      have B := Comes.one (x := m1 text lim s o s ((seen.add 6).add 44) 7 s none [fr0 5 s o] 1 none) rfl (s1_lit text lim s o ((seen.add 6).add 44))
      rw [if_pos (by omega)] at B
      have C := Comes.one (x := m1 text lim s o s (((seen.add 6).add 44).add 16) 7 s (some false) [fr0 5 s o] 1 none) rfl (s1_back text lim s 7 o _)
      rw [if_neg hl] at C
      exact ⟨_, ((A.trans B).trans C).trans (Comes.one rfl (s1_fail text lim s o _))⟩
    · rw [if_neg ha] at A
      have C := Comes.one (x := m1 text lim s o s ((seen.add 6).add 44) 5 s (some false) [fr0 5 s o] 1 none) rfl (s1_back text lim s 5 o _)
      rw [if_neg hl] at C
      exact ⟨_, ((A.trans C).trans (Comes.one rfl (s1_fail text lim s o _))).le (by omega)⟩

theorem search1 (text : Array Nat) (lim : Nat) : ∀ (k s : Nat) (o : Bool) (seen : Sre.Seen), s + k = lim →
    (∃ f o' seen', s ≤ f ∧ f < lim ∧ hit1 text f = true ∧ (∀ j, s ≤ j → j < f → hit1 text j = false) ∧ Comes (3 * k + 5) (at1 text lim s o seen) (won1 text lim f o' seen')) ∨
    ((∀ j, s ≤ j → j < lim → hit1 text j = false) ∧ ∃ o' seen', Comes (3 * k + 5) (at1 text lim s o seen) (lost1 text lim lim o' seen'))
  | 0, s, o, seen, e => by
    obtain rfl : s = lim := by omega
    rcases try1 text s s o seen with ⟨h, _⟩ | ⟨h, _⟩ | ⟨_, seen', C⟩
    · omega
    · omega
    · exact .inr ⟨fun j h1 h2 => by omega, o, seen', C.le (by omega)⟩
  | k + 1, s, o, seen, e => by
    rcases try1 text lim s o seen with ⟨h, hh, seen', C⟩ | ⟨h, hh, seen', C⟩ | ⟨h, _⟩
    · exact .inl ⟨s, o, seen', Nat.le_refl _, h, hh, fun j h1 h2 => by omega, C.le (by omega)⟩
    · rcases search1 text lim k (s + 1) false seen' (by omega) with ⟨f, o', seen2, h1, h2, h3, h4, C2⟩ | ⟨h4, o', seen2, C2⟩
      · refine .inl ⟨f, o', seen2, by omega, h2, h3, fun j j1 j2 => ?_, (C.trans C2).le (by omega)⟩
        by_cases ej : j = s
        · rw [ej]; exact hh
        · exact h4 j (by omega) j2
      · refine .inr ⟨fun j j1 j2 => ?_, o', seen2, (C.trans C2).le (by omega)⟩
        by_cases ej : j = s
        · rw [ej]; exact hh
        · exact h4 j (by omega) j2
    · omega
theorem for1 (text : Array Nat) (lim s : Nat) (h : s < lim) : Sre.forSearch c1 text 0 s lim false = at1 text lim s true (({} : Sre.Seen).add 14) := by
  unfold Sre.forSearch
  have e : (decide (s > lim) || decide (lim - s < (Sre.header c1).1)) = false := by
    have : (Sre.header c1).1 = 1 := by decide +kernel
    rw [this]
    simp only [Bool.or_eq_false_iff, decide_eq_false_iff_not]
    omega
  simp only [e]
  kernel_rfl

theorem for1_out (text : Array Nat) (s : Nat) : ∃ m, Comes 1 (Sre.forSearch c1 text 0 s s false) m ∧ m.outcome = some .failed := by
  have e : Sre.forSearch c1 text 0 s s false = { at1 text s s true (({} : Sre.Seen).add 14) with lastStart := 0, answer := some false, frames := [], weight := 0 } := by
    unfold Sre.forSearch
    have : (decide (s > s) || decide (s - s < (Sre.header c1).1)) = true := by
      rw [show (Sre.header c1).1 = 1 from by decide +kernel, Nat.sub_self]; simp
    simp only [this]
    kernel_rfl
  rw [e]
  exact ⟨_, Comes.one rfl rfl, by kernel_rfl⟩

/-- pattern 2 -/
noncomputable def m2 (text : Array Nat) (lim s : Nat) (o : Bool) (h : Nat) (seen : Sre.Seen) (pc pos : Nat) (ans : Option Bool) (frames : List Sre.Frame) (w : Nat) (out : Option Sre.Outcome) : Sre.M :=
  { code := c2, text, lim, start := s, lastStart := lim, wholeText := false, mustAdvance := false, pc, pos, handed := h, outermost := o, marks := #[], lastmark := -1, lastindex := -1, loops := #[], inner := none, frames, weight := w, answer := ans, seen, outcome := out }
noncomputable abbrev kp0 : Sre.Kept := { lastmark := -1, lastindex := -1, whole := false, marks := #[] }
noncomputable abbrev fb (pc s : Nat) (o : Bool) : Sre.Frame := { wait := .nextBranch, pc := pc, pos := s, outermost := o, kept := kp0 }
noncomputable abbrev fl (s : Nat) (o : Bool) : Sre.Frame := { wait := .lookNot, pc := 26, pos := s, outermost := o, kept := kp0 }
noncomputable abbrev at2 (text : Array Nat) (lim s : Nat) (o : Bool) (seen : Sre.Seen) : Sre.M := m2 text lim s o s seen 10 s none [fr0 10 s o] 1 none
noncomputable abbrev won2 (text : Array Nat) (lim s e : Nat) (o : Bool) (seen : Sre.Seen) : Sre.M := m2 text lim s o e seen 10 s (some true) [] 0 (some .matched)

theorem s2_br (text : Array Nat) (lim s : Nat) (o : Bool) (seen : Sre.Seen) :
    (at2 text lim s o seen).step = m2 text lim s o s (seen.add 7) 12 s none [fb 11 s o, fr0 10 s o] 2 none := by kernel_rfl
theorem s2_cr (text : Array Nat) (lim s : Nat) (o : Bool) (seen : Sre.Seen) (hl : s < lim) :
    (m2 text lim s o s seen 12 s none [fb 11 s o, fr0 10 s o] 2 none).step = (match (text.getD s 0 == 13) with
      | true => m2 text lim s o s (seen.add 16) 14 (s + 1) none [fb 11 s o, fr0 10 s o] 2 none
      | false => m2 text lim s o s (seen.add 16) 12 s (some false) [fb 11 s o, fr0 10 s o] 2 none) := by
  have e : (m2 text lim s o s seen 12 s none [fb 11 s o, fr0 10 s o] 2 none).step = (if s ≥ lim then m2 text lim s o s (seen.add 16) 12 s (some false) [fb 11 s o, fr0 10 s o] 2 none else (match (text.getD s 0 == 13) with
      | true => m2 text lim s o s (seen.add 16) 14 (s + 1) none [fb 11 s o, fr0 10 s o] 2 none
      | false => m2 text lim s o s (seen.add 16) 12 s (some false) [fb 11 s o, fr0 10 s o] 2 none)) := by kernel_rfl
  rw [e, if_neg (by omega)]
theorem s2_lf (text : Array Nat) (lim s : Nat) (o : Bool) (seen : Sre.Seen) :
    (m2 text lim s o s seen 14 (s + 1) none [fb 11 s o, fr0 10 s o] 2 none).step = (if s + 1 ≥ lim then m2 text lim s o s (seen.add 16) 14 (s + 1) (some false) [fb 11 s o, fr0 10 s o] 2 none else (match (text.getD (s + 1) 0 == 10) with
      | true => m2 text lim s o s (seen.add 16) 16 (s + 2) none [fb 11 s o, fr0 10 s o] 2 none
      | false => m2 text lim s o s (seen.add 16) 14 (s + 1) (some false) [fb 11 s o, fr0 10 s o] 2 none)) := by kernel_rfl
theorem s2_jump (text : Array Nat) (lim s e b : Nat) (o : Bool) (seen : Sre.Seen) :
    (m2 text lim s o s seen 16 e none [fb b s o, fr0 10 s o] 2 none).step = m2 text lim s o s (seen.add 15) 35 e none [fb b s o, fr0 10 s o] 2 none := by kernel_rfl
theorem s2_jump2 (text : Array Nat) (lim s e b : Nat) (o : Bool) (seen : Sre.Seen) :
    (m2 text lim s o s seen 21 e none [fb b s o, fr0 10 s o] 2 none).step = m2 text lim s o s (seen.add 15) 35 e none [fb b s o, fr0 10 s o] 2 none := by kernel_rfl
theorem s2_jump3 (text : Array Nat) (lim s e b h : Nat) (o : Bool) (seen : Sre.Seen) :
    (m2 text lim s o h seen 32 e none [fb b s o, fr0 10 s o] 2 none).step = m2 text lim s o h (seen.add 15) 35 e none [fb b s o, fr0 10 s o] 2 none := by kernel_rfl
theorem s2_ok (text : Array Nat) (lim s e b h : Nat) : ∀ (o : Bool) (seen : Sre.Seen),
    (m2 text lim s o h seen 35 e none [fb b s o, fr0 10 s o] 2 none).step = m2 text lim s o e (seen.add 1) 35 e (some true) [fb b s o, fr0 10 s o] 2 none
  | true, seen => by kernel_rfl
  | false, seen => by kernel_rfl
theorem s2_yes (text : Array Nat) (lim s e b : Nat) (o : Bool) (seen : Sre.Seen) :
    (m2 text lim s o e seen 35 e (some true) [fb b s o, fr0 10 s o] 2 none).step = m2 text lim s o e seen b s (some true) [fr0 10 s o] 1 none := by kernel_rfl
theorem s2_yes2 (text : Array Nat) (lim s e b : Nat) (o : Bool) (seen : Sre.Seen) :
    (m2 text lim s o e seen b s (some true) [fr0 10 s o] 1 none).step = m2 text lim s o e seen 10 s (some true) [] 0 none := by kernel_rfl
theorem s2_end (text : Array Nat) (lim s e : Nat) (o : Bool) (seen : Sre.Seen) :
    (m2 text lim s o e seen 10 s (some true) [] 0 none).step = won2 text lim s e o seen := by kernel_rfl
theorem win2 (text : Array Nat) (lim s e b h : Nat) (o : Bool) (seen : Sre.Seen) :
    ∃ seen', Comes 4 (m2 text lim s o h seen 35 e none [fb b s o, fr0 10 s o] 2 none) (won2 text lim s e o seen') :=
  ⟨_, (((Comes.one rfl (s2_ok text lim s e b h o seen)).trans (Comes.one rfl (s2_yes text lim s e b o _))).trans (Comes.one rfl (s2_yes2 text lim s e b o _))).trans (Comes.one rfl (s2_end text lim s e o _))⟩
theorem s2_back (text : Array Nat) (lim s pc pos : Nat) (o : Bool) (seen : Sre.Seen) :
    (m2 text lim s o s seen pc pos (some false) [fb 11 s o, fr0 10 s o] 2 none).step = m2 text lim s o s seen 19 s none [fb 18 s o, fr0 10 s o] 2 none := by kernel_rfl
theorem s2_lf2 (text : Array Nat) (lim s : Nat) (o : Bool) (seen : Sre.Seen) (hl : s < lim) :
    (m2 text lim s o s seen 19 s none [fb 18 s o, fr0 10 s o] 2 none).step = (match (text.getD s 0 == 10) with
      | true => m2 text lim s o s (seen.add 16) 21 (s + 1) none [fb 18 s o, fr0 10 s o] 2 none
      | false => m2 text lim s o s (seen.add 16) 19 s (some false) [fb 18 s o, fr0 10 s o] 2 none) := by
  have e : (m2 text lim s o s seen 19 s none [fb 18 s o, fr0 10 s o] 2 none).step = (if s ≥ lim then m2 text lim s o s (seen.add 16) 19 s (some false) [fb 18 s o, fr0 10 s o] 2 none else (match (text.getD s 0 == 10) with
      | true => m2 text lim s o s (seen.add 16) 21 (s + 1) none [fb 18 s o, fr0 10 s o] 2 none
      | false => m2 text lim s o s (seen.add 16) 19 s (some false) [fb 18 s o, fr0 10 s o] 2 none)) := by kernel_rfl
  rw [e, if_neg (by omega)]
theorem s2_back2 (text : Array Nat) (lim s : Nat) (o : Bool) (seen : Sre.Seen) :
    (m2 text lim s o s seen 19 s (some false) [fb 18 s o, fr0 10 s o] 2 none).step = m2 text lim s o s seen 24 s none [fb 23 s o, fr0 10 s o] 2 none := by kernel_rfl
theorem s2_cr3 (text : Array Nat) (lim s : Nat) (o : Bool) (seen : Sre.Seen) (hl : s < lim) (hc : (text.getD s 0 == 13) = true) :
    (m2 text lim s o s seen 24 s none [fb 23 s o, fr0 10 s o] 2 none).step = m2 text lim s o s (seen.add 16) 26 (s + 1) none [fb 23 s o, fr0 10 s o] 2 none := by
  have e : (m2 text lim s o s seen 24 s none [fb 23 s o, fr0 10 s o] 2 none).step = (if s ≥ lim then m2 text lim s o s (seen.add 16) 24 s (some false) [fb 23 s o, fr0 10 s o] 2 none else (match (text.getD s 0 == 13) with
      | true => m2 text lim s o s (seen.add 16) 26 (s + 1) none [fb 23 s o, fr0 10 s o] 2 none
      | false => m2 text lim s o s (seen.add 16) 24 s (some false) [fb 23 s o, fr0 10 s o] 2 none)) := by kernel_rfl
  rw [e, if_neg (by omega), hc]
theorem s2_look (text : Array Nat) (lim s : Nat) (o : Bool) (seen : Sre.Seen) :
    (m2 text lim s o s seen 26 (s + 1) none [fb 23 s o, fr0 10 s o] 2 none).step = m2 text lim s false (s + 1) (seen.add 5) 29 (s + 1) none [fl (s + 1) o, fb 23 s o, fr0 10 s o] 3 none := by kernel_rfl
theorem s2_lf3 (text : Array Nat) (lim s : Nat) (o : Bool) (seen : Sre.Seen) (hc : ¬ (s + 1 < lim ∧ text.getD (s + 1) 0 = 10)) :
    (m2 text lim s false (s + 1) seen 29 (s + 1) none [fl (s + 1) o, fb 23 s o, fr0 10 s o] 3 none).step = m2 text lim s false (s + 1) (seen.add 16) 29 (s + 1) (some false) [fl (s + 1) o, fb 23 s o, fr0 10 s o] 3 none := by
  have e : (m2 text lim s false (s + 1) seen 29 (s + 1) none [fl (s + 1) o, fb 23 s o, fr0 10 s o] 3 none).step = (if s + 1 ≥ lim then m2 text lim s false (s + 1) (seen.add 16) 29 (s + 1) (some false) [fl (s + 1) o, fb 23 s o, fr0 10 s o] 3 none else (match (text.getD (s + 1) 0 == 10) with
      | true => m2 text lim s false (s + 1) (seen.add 16) 31 (s + 2) none [fl (s + 1) o, fb 23 s o, fr0 10 s o] 3 none
      | false => m2 text lim s false (s + 1) (seen.add 16) 29 (s + 1) (some false) [fl (s + 1) o, fb 23 s o, fr0 10 s o] 3 none)) := by kernel_rfl
  rw [e]
  by_cases h : s + 1 ≥ lim
  · rw [if_pos h]
  · rw [if_neg h, show (text.getD (s + 1) 0 == 10) = false from by simp only [beq_eq_false_iff_ne]; intro q; exact hc ⟨by omega, q⟩]
theorem s2_back3 (text : Array Nat) (lim s : Nat) (o : Bool) (seen : Sre.Seen) :
    (m2 text lim s false (s + 1) seen 29 (s + 1) (some false) [fl (s + 1) o, fb 23 s o, fr0 10 s o] 3 none).step = m2 text lim s o (s + 1) seen 32 (s + 1) none [fb 23 s o, fr0 10 s o] 2 none := by kernel_rfl

noncomputable def hit2 (text : Array Nat) (s : Nat) : Bool := text.getD s 0 == 10 || text.getD s 0 == 13
noncomputable def end2 (text : Array Nat) (lim s : Nat) : Nat := if text.getD s 0 = 13 ∧ s + 1 < lim ∧ text.getD (s + 1) 0 = 10 then s + 2 else s + 1

theorem try2 (text : Array Nat) (lim s : Nat) (o : Bool) (seen : Sre.Seen) (hl : s < lim) (hh : hit2 text s = true) :
    ∃ seen', Comes 20 (at2 text lim s o seen) (won2 text lim s (end2 text lim s) o seen') := by
  have A := (Comes.one rfl (s2_br text lim s o seen)).trans (Comes.one rfl (s2_cr text lim s o (seen.add 7) hl))
  cases h13 : (text.getD s 0 == 13) with
  | true =>
    rw [h13] at A
    have e13 : text.getD s 0 = 13 := by simpa using h13
    have B := A.trans (Comes.one rfl (s2_lf text lim s o ((seen.add 7).add 16)))
    by_cases h10 : s + 1 < lim ∧ text.getD (s + 1) 0 = 10
    · rw [if_neg (by omega), show (text.getD (s + 1) 0 == 10) = true from by simpa using h10.2] at B
      obtain ⟨seen', W⟩ := win2 text lim s (s + 2) 11 s o (((((seen.add 7).add 16).add 16)).add 15)
      have := (B.trans (Comes.one rfl (s2_jump text lim s (s + 2) 11 o _))).trans W
      exact ⟨seen', by unfold end2; rw [if_pos ⟨e13, h10⟩]; exact this.le (by omega)⟩
    · have eB : (if s + 1 ≥ lim then m2 text lim s o s (((seen.add 7).add 16).add 16) 14 (s + 1) (some false) [fb 11 s o, fr0 10 s o] 2 none else (match (text.getD (s + 1) 0 == 10) with
      | true => m2 text lim s o s (((seen.add 7).add 16).add 16) 16 (s + 2) none [fb 11 s o, fr0 10 s o] 2 none
      | false => m2 text lim s o s (((seen.add 7).add 16).add 16) 14 (s + 1) (some false) [fb 11 s o, fr0 10 s o] 2 none)) = m2 text lim s o s (((seen.add 7).add 16).add 16) 14 (s + 1) (some false) [fb 11 s o, fr0 10 s o] 2 none := by
        by_cases h : s + 1 ≥ lim
        · rw [if_pos h]
        · rw [if_neg h, show (text.getD (s + 1) 0 == 10) = false from by simp only [beq_eq_false_iff_ne]; intro q; exact h10 ⟨by omega, q⟩]
      rw [eB] at B
      have C := (B.trans (Comes.one rfl (s2_back text lim s 14 (s + 1) o _))).trans (Comes.one rfl (s2_lf2 text lim s o _ hl))
      rw [show (text.getD s 0 == 10) = false from by rw [e13]; rfl] at C
      have D := (((C.trans (Comes.one rfl (s2_back2 text lim s o _))).trans (Comes.one rfl (s2_cr3 text lim s o _ hl h13))).trans (Comes.one rfl (s2_look text lim s o _))).trans (Comes.one rfl (s2_lf3 text lim s o _ h10))
      have F := (D.trans (Comes.one rfl (s2_back3 text lim s o _))).trans (Comes.one rfl (s2_jump3 text lim s (s + 1) 23 (s + 1) o _))
      obtain ⟨seen', W⟩ := win2 text lim s (s + 1) 23 (s + 1) o _
      exact ⟨seen', by unfold end2; rw [if_neg (fun q => h10 q.2)]; exact (F.trans W).le (by omega)⟩
  | false =>
    rw [h13] at A
    have e10 : (text.getD s 0 == 10) = true := by
      unfold hit2 at hh
      rw [h13, Bool.or_false] at hh
      exact hh
    have C := (A.trans (Comes.one rfl (s2_back text lim s 12 s o _))).trans (Comes.one rfl (s2_lf2 text lim s o _ hl))
    rw [e10] at C
    have F := C.trans (Comes.one rfl (s2_jump2 text lim s (s + 1) 18 o _))
    obtain ⟨seen', W⟩ := win2 text lim s (s + 1) 18 s o _
    refine ⟨seen', ?_⟩
    unfold end2
    rw [if_neg (fun q => by rw [q.1] at h13; cases h13)]
    exact (F.trans W).le (by omega)

theorem set2 (c : Nat) (seen : Sre.Seen) : Sre.inSet c2 c c2.size 5 true seen = (match (c == 10) with
    | true => .ok (true, seen.add 16)
    | false => (match (c == 13) with
      | true => .ok (true, (seen.add 16).add 16)
      | false => .ok (false, ((seen.add 16).add 16).add 0))) := by
  have e : Sre.inSet c2 c c2.size 5 true seen = (if (c == 10) = true then .ok (true, seen.add 16) else (if (c == 13) = true then .ok (true, (seen.add 16).add 16) else .ok (false, ((seen.add 16).add 16).add 0))) := by kernel_rfl
  rw [e]
  cases (c == 10) <;> cases (c == 13) <;> rfl
theorem adm2 (m : Sre.M) (text : Array Nat) (lim : Nat) (hc : m.code = c2) (ht : m.text = text) (hm : m.lim = lim) : ∀ (k s : Nat) (seen : Sre.Seen), lim < s + k + 1 →
    (∃ f seen', s ≤ f ∧ f < lim ∧ hit2 text f = true ∧ (∀ j, s ≤ j → j < f → hit2 text j = false) ∧ Sre.M.admitted m (k + 1) s seen = .ok (some f, seen')) ∨
    ((∀ j, s ≤ j → j < lim → hit2 text j = false) ∧ ∃ seen', Sre.M.admitted m (k + 1) s seen = .ok (none, seen')) := by
  intro k
  induction k with
  | zero =>
    intro s seen h
    refine .inr ⟨fun j h1 h2 => by omega, seen, ?_⟩
    unfold Sre.M.admitted
    rw [if_pos (by rw [hm]; omega)]
  | succ k ih =>
    intro s seen h
    unfold Sre.M.admitted
    by_cases hs : s < lim
    · rw [if_neg (by rw [hm]; omega), hc, ht, set2]
      cases h10 : (text.getD s 0 == 10) with
      | true => exact .inl ⟨s, _, Nat.le_refl _, hs, by unfold hit2; rw [h10]; rfl, fun j h1 h2 => by omega, rfl⟩
      | false =>
        cases h13 : (text.getD s 0 == 13) with
        | true => exact .inl ⟨s, _, Nat.le_refl _, hs, by unfold hit2; rw [h13, Bool.or_true], fun j h1 h2 => by omega, rfl⟩
        | false =>
          have hn : hit2 text s = false := by unfold hit2; rw [h10, h13]; rfl
          rcases ih (s + 1) (((seen.add 16).add 16).add 0) (by omega) with ⟨f, seen', a, b, c, d, e⟩ | ⟨d, seen', e⟩
          · refine .inl ⟨f, seen', by omega, b, c, fun j j1 j2 => ?_, e⟩
            by_cases ej : j = s
            · rw [ej]; exact hn
            · exact d j (by omega) j2
          · refine .inr ⟨fun j j1 j2 => ?_, seen', e⟩
            by_cases ej : j = s
            · rw [ej]; exact hn
            · exact d j (by omega) j2
    · refine .inr ⟨fun j h1 h2 => by omega, seen, ?_⟩
      rw [if_pos (by rw [hm]; omega)]

noncomputable abbrev m20 (text : Array Nat) (lim s : Nat) : Sre.M := m2 text lim s true s (({} : Sre.Seen).add 14) 10 s none [] 0 none
theorem for2_eq (text : Array Nat) (lim s : Nat) (h : s < lim) : Sre.forSearch c2 text 0 s lim false = (match Sre.M.admitted (m20 text lim s) (lim + 1 - s) s (({} : Sre.Seen).add 14) with
    | .ok (some f, seen) => at2 text lim f true seen
    | .ok (none, seen) => { m20 text lim s with seen := seen, answer := some false }
    | .error why => { m20 text lim s with outcome := some (.stuck why) }) := by
  unfold Sre.forSearch
  have e : (decide (s > lim) || decide (lim - s < (Sre.header c2).1)) = false := by
    have : (Sre.header c2).1 = 1 := by decide +kernel
    rw [this]
    simp only [Bool.or_eq_false_iff, decide_eq_false_iff_not]
    omega
  simp only [e]
  kernel_rfl
theorem for2_out (text : Array Nat) (s : Nat) : ∃ m, Comes 1 (Sre.forSearch c2 text 0 s s false) m ∧ m.outcome = some .failed := by
  have e : Sre.forSearch c2 text 0 s s false = { m20 text s s with lastStart := 0, answer := some false } := by
    unfold Sre.forSearch
    have : (decide (s > s) || decide (s - s < (Sre.header c2).1)) = true := by
      rw [show (Sre.header c2).1 = 1 from by decide +kernel, Nat.sub_self]; simp
    simp only [this]
    kernel_rfl
  rw [e]
  exact ⟨_, Comes.one rfl rfl, by kernel_rfl⟩

/-- what a search gives: the first hit and its end, or nothing -/
structure Finds (code text : Array Nat) (lim s : Nat) (hit : Nat → Bool) (fin : Nat → Nat) : Prop where
  out : (∃ f m b, s ≤ f ∧ f < lim ∧ hit f = true ∧ (∀ j, s ≤ j → j < f → hit j = false) ∧ b ≤ 3 * lim + 40 ∧ Comes b (Sre.forSearch code text 0 s lim false) m ∧ m.outcome = some .matched ∧ m.start = f ∧ m.handed = fin f) ∨
    ((∀ j, s ≤ j → j < lim → hit j = false) ∧ ∃ m b, b ≤ 3 * lim + 40 ∧ Comes b (Sre.forSearch code text 0 s lim false) m ∧ m.outcome = some .failed)

theorem finds1 (text : Array Nat) (lim s : Nat) (h : s ≤ lim) : Finds c1 text lim s (hit1 text) (· + 1) := by
  refine ⟨?_⟩
  by_cases hs : s < lim
  · rw [for1 text lim s hs]
    rcases search1 text lim (lim - s) s true (({} : Sre.Seen).add 14) (by omega) with ⟨f, o', seen', a, b, c, d, C⟩ | ⟨d, o', seen', C⟩
    · exact .inl ⟨f, _, _, a, b, c, d, by omega, C, rfl, rfl, rfl⟩
    · exact .inr ⟨d, _, _, by omega, C, rfl⟩
  · obtain rfl : s = lim := by omega
    obtain ⟨m, C, e⟩ := for1_out text s
    exact .inr ⟨fun j h1 h2 => by omega, m, 1, by omega, C, e⟩
theorem finds2 (text : Array Nat) (lim s : Nat) (h : s ≤ lim) : Finds c2 text lim s (hit2 text) (end2 text lim) := by
  refine ⟨?_⟩
  by_cases hs : s < lim
  · rw [for2_eq text lim s hs]
    have hk : lim + 1 - s = (lim - s) + 1 := by omega
    rw [hk]
    rcases adm2 (m20 text lim s) text lim rfl rfl rfl (lim - s) s (({} : Sre.Seen).add 14) (by omega) with ⟨f, seen', a, b, c, d, e⟩ | ⟨d, seen', e⟩
    · rw [e]
      obtain ⟨seen2, C⟩ := try2 text lim f true seen' b c
      exact .inl ⟨f, _, _, a, b, c, d, by omega, C, rfl, rfl, rfl⟩
    · rw [e]
      exact .inr ⟨d, _, 1, by omega, Comes.one (x := { m20 text lim s with seen := seen', answer := some false }) rfl rfl, by kernel_rfl⟩
  · obtain rfl : s = lim := by omega
    obtain ⟨m, C, e⟩ := for2_out text s
    exact .inr ⟨fun j h1 h2 => by omega, m, 1, by omega, C, e⟩

/-- the machine's drive, under the logic -/
theorem drive {M : Model} {A : Around} {E : Value → Shared → Prop} {s : Shared} {Q : Sre.M → Shared → Prop} {m' : Sre.M} (ho : m'.outcome.isSome = true) (h : Q m' s) : ∀ (turns : Nat) (m : Sre.M) (n : Nat), n < 4 * turns → Sre.M.runFor n m = m' →
    wpAny M A (Builtin.Re.reDrive turns m) Q E s
  | 0, m, n, hn, e => by omega
  | t + 1, m, n, hn, e => by
    unfold Builtin.Re.reDrive
    show wpAny M A (if (Sre.M.runFor 4 m).outcome.isSome = true then pure (Sre.M.runFor 4 m) else (rule "sre.turn" >>= fun _ => Builtin.Re.reDrive t (Sre.M.runFor 4 m))) Q E s
    by_cases h4 : (Sre.M.runFor 4 m).outcome.isSome = true
    · rw [if_pos h4]
      have em : Sre.M.runFor 4 m = m' := by
        by_cases hle : n ≤ 4
        · have := runFor_add n (4 - n) m
          rw [show n + (4 - n) = 4 by omega, e, runFor_stop ho] at this
          exact this
        · have := runFor_add 4 (n - 4) m
          rw [show 4 + (n - 4) = n by omega, e, runFor_stop h4] at this
          exact this.symm
      rw [em]
      exact wpAny_pure h
    · rw [if_neg h4]
      have hlt : 4 < n := by
        by_cases hle : n ≤ 4
        · exfalso
          have := runFor_add n (4 - n) m
          rw [show n + (4 - n) = 4 by omega, e, runFor_stop ho] at this
          rw [this] at h4
          exact h4 ho
        · omega
      refine wpAny_bind (wpAny_rule ?_)
      refine drive ho h t _ (n - 4) (by omega) ?_
      have := runFor_add 4 (n - 4) m
      rw [show 4 + (n - 4) = n by omega, e] at this
      exact this.symm
theorem still_for {M : Model} {A : Around} {E : Value → Shared → Prop} {s : Shared} {Q : PUnit → Shared → Prop} (f : Nat → PUnit → Sem (ForInStep PUnit)) (hf : ∀ (i : Nat) (R : ForInStep PUnit → Shared → Prop), R (.yield ⟨⟩) s → wpAny M A (f i ⟨⟩) R E s) (h : Q ⟨⟩ s) : ∀ l : List Nat,
    wpAny M A (forIn l PUnit.unit f) Q E s
  | [] => wpAny_pure h
  | i :: l => by
    rw [List.forIn_cons]
    exact wpAny_bind (hf i _ (still_for f hf h l))
theorem toEnd {M : Model} {A : Around} {E : Value → Shared → Prop} {s : Shared} {Q : Option Sre.M → Shared → Prop} {m m' : Sre.M} {b : Nat} (C : Comes b m m') (hb : b < 4 * 2 ^ 64)
    (h : (m'.outcome = some .matched ∧ Q (some m') s) ∨ (m'.outcome = some .failed ∧ Q none s)) : wpAny M A (Builtin.Re.reRunToEnd m) Q E s := by
  obtain ⟨n, hn, e⟩ := C
  unfold Builtin.Re.reRunToEnd
  refine wpAny_bind (drive (m' := m') (by rcases h with ⟨q, _⟩ | ⟨q, _⟩ <;> rw [q] <;> rfl) ?_ (2 ^ 64) m n (by omega) e)
  refine wpAny_bind (still_for _ (fun i R hR => ?_) ?_ _)
  · cases m'.seen.has i with
    | true => exact wpAny_bind (wpAny_rule (wpAny_pure hR))
    | false => exact wpAny_pure hR
  rcases h with ⟨q, r⟩ | ⟨q, r⟩
  · rw [q]; exact wpAny_pure r
  · rw [q]; exact wpAny_pure r
end Mine

end
section
open PySem PySem.W PyProof.Rows
set_option Elab.async false
set_option maxRecDepth 100000
set_option linter.unusedVariables false
namespace Mine

theorem entry_loop : entryFor table "re.Pattern.sub.loop" = some Builtin.«re.Pattern.sub.loop» := entryFor_of_tree (by kernel_rfl)
theorem entry_sub : entryFor table "re.Pattern.sub" = some Builtin.«re.Pattern.sub» := entryFor_of_tree (by kernel_rfl)
theorem plain_loop : plainId "re.Pattern.sub.loop" = true := by decide +kernel
theorem plain_sub : plainId "re.Pattern.sub" = true := by decide +kernel

theorem sub_tree1 (a : Addr) (x : Str) (tx tr : Tok) : Builtin.«re.Pattern.sub» ⟨[.ref a, .str (Str.ofString "..") tr, .str x tx], []⟩ = (do
    let _ ← Builtin.Re.reWholeTarget (.ref a) (.str x tx)
    let l ← newList []
    again (.builtin "re.Pattern.sub.loop" ⟨[.ref a, .str x tx, .str (Str.ofString "..") tr, rawInt 0, rawInt 0, rawInt 0, rawInt 0, rawInt 0, .bool false, l, .bool false], []⟩)) := by kernel_rfl
theorem sub_tree2 (a : Addr) (x : Str) (tx tr : Tok) : Builtin.«re.Pattern.sub» ⟨[.ref a, .str (Str.mk #[13, 10]) tr, .str x tx], []⟩ = (do
    let _ ← Builtin.Re.reWholeTarget (.ref a) (.str x tx)
    let l ← newList []
    again (.builtin "re.Pattern.sub.loop" ⟨[.ref a, .str x tx, .str (Str.mk #[13, 10]) tr, rawInt 0, rawInt 0, rawInt 0, rawInt 0, rawInt 0, .bool false, l, .bool false], []⟩)) := by kernel_rfl

noncomputable abbrev lo (vs : List Value) (n : Nat) : Obj := { cls := .type "list", data := .seq vs.toArray n }
noncomputable abbrev loopArgs (pa l : Addr) (x R : Str) (tx tr : Tok) (k p : Nat) : Args := ⟨[.ref pa, .str x tx, .str R tr, rawInt 0, rawInt 0, rawInt (k : Nat), rawInt (p : Nat), rawInt (p : Nat), .bool false, .ref l, .bool false], []⟩
open Builtin.Re in
noncomputable def subGo (pa l : Addr) (x R : Str) (tx tr : Tok) (k : Nat) (m : Sre.M) : Sem PySem.Fin := do
  updateSeq l (·.push (.str R tr))
  again (.builtin "re.Pattern.sub.loop" ⟨[.ref pa, .str x tx, .str R tr, rawInt 0, rawInt 0, rawInt (k + 1 : Nat), rawInt m.handed, rawInt m.handed, .bool (m.handed == m.start), .ref l, .bool false], []⟩)
open Builtin.Re in
noncomputable def subEnd (l : Addr) (text : Array Nat) (kind : Nat) : Sem PySem.Fin := do
  let joiner ← reSlice text kind 0 0
  let its ← seqItems? (.ref l)
  if (its.getD #[]).isEmpty then ret joiner else do
    let v ← call (.builtin (if kind == 0 then "str.join" else "bytes.join")) [joiner, .ref l]
    ret v
open Builtin.Re in
noncomputable def subPut (l : Addr) (text : Array Nat) (kind b e : Nat) (k : Sem PySem.Fin) : Sem PySem.Fin :=
  if b < e then (do let v ← reSlice text kind b e; let _ ← updateSeq l (·.push v); k) else k
open Builtin.Re in
theorem loop_tree (pa l : Addr) (x R : Str) (tx tr : Tok) (k p : Nat) : Builtin.«re.Pattern.sub.loop» (loopArgs pa l x R tx tr k p) = (do
    let t ← reWholeTarget (.ref pa) (.str x tx)
    let r ← reNextFound t p false
    match r with
    | some m => subPut l t.text t.kind p m.start (subGo pa l x R tx tr k m)
    | none => subPut l t.text t.kind p t.lim (subEnd l t.text t.kind)) := by kernel_rfl

inductive SubTo (hit : Nat → Bool) (fin : Nat → Nat) (text R : List Nat) (lim : Nat) : Nat → List Nat → Prop
  | stop (p : Nat) : (∀ j, p ≤ j → j < lim → hit j = false) → SubTo hit fin text R lim p (text.drop p)
  | hit (p f : Nat) (r : List Nat) : p ≤ f → f < lim → hit f = true → (∀ j, p ≤ j → j < f → hit j = false) → f < fin f → fin f ≤ lim → SubTo hit fin text R lim (fin f) r → SubTo hit fin text R lim p ((text.drop p).take (f - p) ++ (R ++ r))

/-- the texts glued -/
noncomputable def gl (ys : List Str) : List Nat := ys.flatMap (fun y => y.cps.toList)
theorem join_empty : ∀ ys : List Str, (Str.join (Str.mk #[]) ys).cps.toList = gl ys
  | [] => rfl
  | [x] => by show x.cps.toList = gl [x]; unfold gl; simp
  | x :: y :: r => by
    show (x ++ (Str.mk #[]) ++ Str.join (Str.mk #[]) (y :: r)).cps.toList = gl (x :: y :: r)
    have e : (x ++ (Str.mk #[]) ++ Str.join (Str.mk #[]) (y :: r)).cps.toList = x.cps.toList ++ (Str.join (Str.mk #[]) (y :: r)).cps.toList := by
      show ((x.cps ++ #[]) ++ (Str.join (Str.mk #[]) (y :: r)).cps).toList = _
      simp
    rw [e, join_empty (y :: r)]
    rfl
theorem gl_length : ∀ ys : List Str, (gl ys).length = (ys.map (·.length)).sum
  | [] => rfl
  | y :: r => by
    have := gl_length r
    unfold gl at this ⊢
    rw [List.flatMap_cons, List.length_append, this, List.map_cons, List.sum_cons]
    rfl
theorem gl_append (a b : List Str) : gl (a ++ b) = gl a ++ gl b := by unfold gl; rw [List.flatMap_append]

theorem update_push_self (H : Heap) (o : Obj) (f : Obj → Obj) : (H.push o).update H.objs.size f = H.push (f o) := by
  have : ((H.push o).update H.objs.size f).objs = (H.push (f o)).objs := by
    apply Array.ext_getElem?
    intro i
    show ((H.objs.push o).modify H.objs.size f)[i]? = (H.objs.push (f o))[i]?
    rw [Array.getElem?_modify, Array.getElem?_push, Array.getElem?_push]
    by_cases e : i = H.objs.size
    · subst e; simp
    · simp [e, Ne.symm e]
  show Heap.mk _ _ = Heap.mk _ _
  exact congrArg (Heap.mk · H.life) this

section
variable {prog : Program} {w : World} {A : Around} {H : Heap} {pa : Addr} {x R : Str} {tx tr : Tok} {c : Array Nat} {hit : Nat → Bool} {fin : Nat → Nat}
theorem push_item {s : Shared} {E : Value → Shared → Prop} {vs : List Value} {n tk : Nat} {v : Value} {Q : Unit → Shared → Prop} (hsz : vs.length ≤ 10000000)
    (h : ∀ n', Q () { s with heap := H.push (lo (vs ++ [v]) n'), toks := tk }) : wpAny (model prog w) A (updateSeq H.objs.size (·.push v)) Q E { s with heap := H.push (lo vs n), toks := tk } := by
  refine wpAny_updateSeq (o := lo vs n) (Heap.get?_push_size _ rfl) rfl ?_ (by rw [List.size_toArray, sizeLine_eq]; omega) (by rw [Array.size_push, List.size_toArray, sizeLine_eq]; omega)
  rw [show ({ s with heap := H.push (lo vs n), toks := tk } : Shared).heap = H.push (lo vs n) from rfl, update_push_self]
  have e : Obj.mapSeq (fun xs => xs.push v) (lo vs n) = lo (vs ++ [v]) (if (vs.toArray.push v).size == vs.toArray.size then n else n + 1) :=
    congrArg (fun xs => (⟨.type "list", none, .seq xs (if (vs.toArray.push v).size == vs.toArray.size then n else n + 1), #[]⟩ : Obj)) (List.push_toArray vs v)
  rw [e]
  exact h _
theorem codeAny_bi {id : String} {args : Args} {b : Builtin} {s : Shared} {Rr : Result → Shared → Prop} (hq : plainId id = true) (hb : entryFor table id = some b)
    (h : wpAny (model prog w) A.in1 (b args) (fun fin s' => match fin with | .done f => Rr (.ok f) s' | .again c' => c'.quiet = true ∧ codeAny (model prog w) A c' Rr s') (fun e s' => Rr (.error e) s') s) :
    codeAny (model prog w) A (.builtin id args) Rr s := by
  refine codeAny_of_tree ?_
  rw [Around.under_plainId hq]
  show wpAny _ _ (match entryFor table id with | some b => b args | none => unsupported ((withoutEnding? id "#data").getD id)) _ _ s
  rw [hb]; exact h

theorem sub_loop (hT : ∀ A (Q : Builtin.Re.ReTarget → Shared → Prop) E (s : Shared) vs n tk, Q ⟨.ref pa, .str x tx, c, x.cps, 0, 0, 0, x.cps.size⟩ { s with heap := H.push (lo vs n), toks := tk } →
      wpAny (model prog w) A (Builtin.Re.reWholeTarget (.ref pa) (.str x tx)) Q E { s with heap := H.push (lo vs n), toks := tk })
    (hF : ∀ p, p ≤ x.cps.size → Finds c x.cps x.cps.size p hit fin) (hx : x.cps.size ≤ 1000000) (hR : R.length ≤ 2) {Q : Result → Shared → Prop} {s : Shared} :
    ∀ (p : Nat) (r : List Nat), SubTo hit fin x.cps.toList R.cps.toList x.cps.size p r → p ≤ x.cps.size → ∀ (vs : List Value) (ys : List Str) (n tk k : Nat), StrsAre vs ys → (gl ys).length + ys.length ≤ 5 * p →
      (∀ t vs' n' tk', Q (.ok (.ret (.str ⟨(gl ys ++ r).toArray⟩ t))) { s with heap := H.push (lo vs' n'), toks := tk' }) →
      codeAny (model prog w) A (.builtin "re.Pattern.sub.loop" (loopArgs pa H.objs.size x R tx tr k p)) Q { s with heap := H.push (lo vs n), toks := tk } := by
  intro p r hS
  induction hS with
  | stop p hno =>
    intro hp vs ys n tk k hvs hlen hQ
    have hvl : vs.length = ys.length := hvs.length
    refine codeAny_bi plain_loop entry_loop ?_
    rw [loop_tree]
    refine wpAny_bind (hT _ _ _ s vs n tk ?_)
    rcases (hF p hp).out with ⟨f, m, b, h1, h2, h3, h4, hb, C, o1, o2, o3⟩ | ⟨h4, m, b, hb, C, o1⟩
    · exact absurd h3 (by rw [hno f h1 h2]; exact Bool.false_ne_true)
    refine wpAny_bind (toEnd C (by omega) (.inr ⟨o1, ?_⟩))
    have last : ∀ (vs2 : List Value) (ys2 : List Str) (n2 tk2 : Nat), StrsAre vs2 ys2 → gl ys2 = gl ys ++ x.cps.toList.drop p → ys2.length ≤ ys.length + 1 →
        wpAny (model prog w) A.in1 (subEnd H.objs.size x.cps 0) (fun fin s' => match fin with | .done f => Q (.ok f) s' | .again c' => c'.quiet = true ∧ codeAny (model prog w) A c' Q s') (fun e s' => Q (.error e) s') { s with heap := H.push (lo vs2 n2), toks := tk2 } := by
      intro vs2 ys2 n2 tk2 hv2 hg2 hl2
      refine wpAny_bind (wpAny_mkStr (x := ⟨x.cps.extract 0 0⟩) ?_ (by rw [sizeLine_eq]; show (x.cps.extract 0 0).size ≤ _; rw [Array.size_extract]; omega))
      refine wpAny_bind (wpAny_seqItems (o := lo vs2 n2) (Heap.get?_push_size _ rfl) rfl ?_)
      have ee : (⟨x.cps.extract 0 0⟩ : Str) = Str.mk #[] := by simp
      rw [ee]
      by_cases he : ((some vs2.toArray).getD #[]).isEmpty = true
      · rw [if_pos he]
        have : vs2 = [] := by simpa using he
        subst this
        cases hv2
        refine wpAny_pure ?_
        have e3 : gl ys ++ x.cps.toList.drop p = [] := hg2.symm
        have := hQ tk2 [] n2 (tk2 + 1)
        rw [e3] at this
        exact this
      · rw [if_neg he]
        have hlen2 : (gl ys2).length + ys2.length ≤ 1048576 * 10 := by
          have hxl : x.cps.toList.length = x.cps.size := Array.length_toList
          rw [hg2, List.length_append, List.length_drop, hxl]; omega
        refine wpAny_bind (join_list (D := H.objs.size) (items := vs2.toArray) (ys := ys2) ⟨_, Heap.get?_push_size _ rfl, rfl, _, rfl⟩ hv2 (by rw [← gl_length]; show (gl ys2).length + ys2.length * 0 ≤ _; omega) (fun t' k' => ?_))
        refine wpAny_pure ?_
        have e4 : Txt.join (Str.mk #[]) ys2 = ⟨(gl ys ++ x.cps.toList.drop p).toArray⟩ := by
          show Builtin.Str.glued _ _ = _
          rw [StrLaws.glued_eq_join, ← hg2, ← join_empty]
        rw [e4]
        exact hQ t' vs2 n2 k'
    show wpAny (model prog w) A.in1 (subPut H.objs.size x.cps 0 p x.cps.size (subEnd H.objs.size x.cps 0)) _ _ _
    unfold subPut
    by_cases hlt : p < x.cps.size
    · rw [if_pos hlt]
      refine wpAny_bind (wpAny_mkStr (x := ⟨x.cps.extract p x.cps.size⟩) ?_ (by rw [sizeLine_eq]; show (x.cps.extract p x.cps.size).size ≤ _; rw [Array.size_extract]; omega))
      refine wpAny_bind (push_item (by omega) (fun n' => ?_))
      refine last _ (ys ++ [⟨x.cps.extract p x.cps.size⟩]) n' _ (StrsAre.append' hvs (.cons _ _ .nil)) ?_ (by rw [List.length_append]; exact Nat.le_refl _)
      rw [gl_append]
      congr 1
      show gl [_] = _
      unfold gl
      simp
      exact List.take_of_length_le (by rw [List.length_drop, Array.length_toList]; omega)
    · rw [if_neg hlt]
      refine last vs ys n tk hvs ?_ (by omega)
      rw [List.drop_of_length_le (by rw [Array.length_toList]; omega), List.append_nil]
  | hit p f r h1 h2 h3 h4 h5 h6 hS ih =>
    intro hp vs ys n tk k hvs hlen hQ
    have hvl : vs.length = ys.length := hvs.length
    refine codeAny_bi plain_loop entry_loop ?_
    rw [loop_tree]
    refine wpAny_bind (hT _ _ _ s vs n tk ?_)
    rcases (hF p hp).out with ⟨f', m, b, g1, g2, g3, g4, hb, C, o1, o2, o3⟩ | ⟨g4, m, b, hb, C, o1⟩
    rotate_left
    · exact absurd h3 (by rw [g4 f h1 h2]; exact Bool.false_ne_true)
    have ef : f' = f := by
      rcases Nat.lt_trichotomy f' f with q | q | q
      · exact absurd g3 (by rw [h4 f' g1 q]; exact Bool.false_ne_true)
      · exact q
      · exact absurd h3 (by rw [g4 f h1 q]; exact Bool.false_ne_true)
    subst ef
    refine wpAny_bind (toEnd C (by omega) (.inl ⟨o1, ?_⟩))
    have step : ∀ (vs2 : List Value) (ys2 : List Str) (n2 tk2 : Nat), StrsAre vs2 ys2 → gl ys2 = gl ys ++ (x.cps.toList.drop p).take (f' - p) → ys2.length ≤ ys.length + 1 →
        wpAny (model prog w) A.in1 (subGo pa H.objs.size x R tx tr k m)
          (fun fin s' => match fin with | .done f => Q (.ok f) s' | .again c' => c'.quiet = true ∧ codeAny (model prog w) A c' Q s') (fun e s' => Q (.error e) s') { s with heap := H.push (lo vs2 n2), toks := tk2 } := by
      intro vs2 ys2 n2 tk2 hv2 hg2 hl2
      have hvl2 : vs2.length = ys2.length := hv2.length
      refine wpAny_bind (push_item (by omega) (fun n' => ?_))
      refine wpAny_pure ⟨plainId_quiet plain_loop _, ?_⟩
      rw [show (m.handed == m.start) = false from by rw [o2, o3]; exact beq_eq_false_iff_ne.mpr (by omega), o3]
      have hgl : (gl (ys2 ++ [R])).length + (ys2 ++ [R]).length ≤ 5 * fin f' := by
        have hR2 : (gl [R]).length ≤ 2 := by rw [gl_length]; simpa using hR
        rw [gl_append, List.length_append, hg2, List.length_append, List.length_append, List.length_take, List.length_singleton]
        omega
      refine ih h6 (vs2 ++ [.str R tr]) (ys2 ++ [R]) n' tk2 (k + 1) (StrsAre.append' hv2 (.cons _ _ .nil)) hgl (fun t vs' n'' tk' => ?_)
      have e : gl (ys2 ++ [R]) ++ r = gl ys ++ ((x.cps.toList.drop p).take (f' - p) ++ (R.cps.toList ++ r)) := by
        rw [gl_append, hg2]
        have : gl [R] = R.cps.toList := by unfold gl; simp
        rw [this]
        simp only [List.append_assoc]
      rw [e]
      exact hQ t vs' n'' tk'
    show wpAny (model prog w) A.in1 (subPut H.objs.size x.cps 0 p m.start (subGo pa H.objs.size x R tx tr k m)) _ _ _
    unfold subPut
    rw [o2]
    by_cases hlt : p < f'
    · rw [if_pos hlt]
      refine wpAny_bind (wpAny_mkStr (x := ⟨x.cps.extract p f'⟩) ?_ (by rw [sizeLine_eq]; show (x.cps.extract p f').size ≤ _; rw [Array.size_extract]; omega))
      refine wpAny_bind (push_item (by omega) (fun n' => ?_))
      refine step _ (ys ++ [⟨x.cps.extract p f'⟩]) n' _ (StrsAre.append' hvs (.cons _ _ .nil)) ?_ (by rw [List.length_append]; exact Nat.le_refl _)
      rw [gl_append]
      congr 1
      show gl [_] = _
      unfold gl
      simp
    · rw [if_neg hlt]
      refine step vs ys n tk hvs ?_ (by omega)
      rw [show f' - p = 0 by omega, List.take_zero, List.append_nil]
end

section
variable {prog : Program} {w : World} {A : Around} {pa : Addr} {x R : Str} {tx tr : Tok} {c : Array Nat} {hit : Nat → Bool} {fin : Nat → Nat} {s : Shared} {E : Value → Shared → Prop} {Q : Value → Shared → Prop} {h₀ : Heap} {L : Addr} {m : Str → Option Value} {news : List (Addr × Obj)} {r : List Nat}
theorem sub_call (htree : Builtin.«re.Pattern.sub» ⟨[.ref pa, .str R tr, .str x tx], []⟩ = (do
      let _ ← Builtin.Re.reWholeTarget (.ref pa) (.str x tx)
      let l ← newList []
      again (.builtin "re.Pattern.sub.loop" ⟨[.ref pa, .str x tx, .str R tr, rawInt 0, rawInt 0, rawInt 0, rawInt 0, rawInt 0, .bool false, l, .bool false], []⟩)))
    (hT : Looks (model prog w) h₀ (Builtin.Re.reWholeTarget (.ref pa) (.str x tx)) ⟨.ref pa, .str x tx, c, x.cps, 0, 0, 0, x.cps.size⟩)
    (hC : Looks (model prog w) h₀ (checkBuiltinCall "re.Pattern.sub" ⟨[.ref pa, .str R tr, .str x tx], []⟩) ())
    (F : Fr h₀ L s.heap m) (N : News h₀ L s.heap news) (hF : ∀ p, p ≤ x.cps.size → Finds c x.cps x.cps.size p hit fin) (hx : x.cps.size ≤ 1000000) (hR : R.length ≤ 2)
    (hS : SubTo hit fin x.cps.toList R.cps.toList x.cps.size 0 r)
    (h : ∀ h' t tk', Fr h₀ L h' m → News h₀ L h' news → Q (.str ⟨r.toArray⟩ t) { s with heap := h', toks := tk' }) :
    wpAny (model prog w) A (call (.builtin "re.Pattern.sub") [.ref pa, .str R tr, .str x tx]) Q E s := by
  refine wpAny_call (codeAny_call_builtin plain_sub entry_sub ?_)
  refine (hC.keeps F.keep).here ?_
  rw [htree]
  refine wpAny_bind ((hT.keeps F.keep).here ?_)
  refine wpAny_bind (wpAny_newList ?_ (by show 0 ≤ sizeLine; exact Nat.zero_le _))
  refine wpAny_pure ⟨plainId_quiet plain_loop _, ?_⟩
  refine sub_loop (H := s.heap) (s := s) (fun A Q E s' vs n tk q => ?_) hF hx hR 0 r hS (Nat.zero_le _) [] [] 0 s.toks 0 .nil (Nat.le_refl _) (fun t vs' n' tk' => ?_)
  · exact hT A Q E _ (fun b o e => Heap.get?_push_of_some _ (F.keep b o e)) q
  · exact h _ t tk' (F.push _) (fun p hp => News.push F N (lo vs' n') rfl p (List.mem_cons_of_mem _ hp))
end

theorem SubTo.ext {hit : Nat → Bool} {fin : Nat → Nat} {text R : List Nat} {lim p : Nat} {r : List Nat} (hl : p < text.length) (hh : hit p = false) (h : SubTo hit fin text R lim (p + 1) r) : SubTo hit fin text R lim p (text[p] :: r) := by
  have hd : text.drop p = text[p] :: text.drop (p + 1) := List.drop_eq_getElem_cons hl
  cases h with
  | stop _ h1 =>
    rw [← hd]
    refine .stop p fun j j1 j2 => ?_
    by_cases e : j = p
    · rw [e]; exact hh
    · exact h1 j (by omega) j2
  | hit _ f r' h1 h2 h3 h4 h5 h6 h7 =>
    have := SubTo.hit (R := R) p f r' (by omega) h2 h3 (fun j j1 j2 => by
      by_cases e : j = p
      · rw [e]; exact hh
      · exact h4 j (by omega) j2) h5 h6 h7
    rw [hd, show f - p = (f - (p + 1)) + 1 by omega, List.take_succ_cons] at this
    exact this

/-- a dot at a row's begin is doubled; b: a row begins here -/
noncomputable def dots : Bool → List Nat → List Nat
  | _, [] => []
  | b, c :: r => (if b = true ∧ c = 46 then [46, 46] else [c]) ++ dots (c == 10) r
/-- rows end with a return and a feed; b: a return stood right before -/
noncomputable def crlf : Bool → List Nat → List Nat
  | _, [] => []
  | b, c :: r => if c = 10 then (if b = true then crlf false r else 13 :: 10 :: crlf false r) else if c = 13 then 13 :: 10 :: crlf true r else c :: crlf false r
theorem getD_of_lt {text : List Nat} {p : Nat} (h : p < text.length) : text.toArray.getD p 0 = text[p] := by
  rw [Array.getD_eq_getD_getElem?, List.getElem?_toArray, List.getElem?_eq_getElem h]; rfl
theorem subTo1 (text : List Nat) : ∀ (k p : Nat), p + k = text.length →
    SubTo (hit1 text.toArray) (· + 1) text [46, 46] text.length p (dots (p == 0 || text.toArray.getD (p - 1) 0 == 10) (text.drop p))
  | 0, p, e => by
    have h0 : text.drop p = [] := List.drop_of_length_le (by omega)
    have := SubTo.stop (hit := hit1 text.toArray) (fin := (· + 1)) (text := text) (R := [46, 46]) (lim := text.length) p (fun j h1 h2 => by omega)
    rw [h0] at this ⊢
    exact this
  | k + 1, p, e => by
    have hl : p < text.length := by omega
    have hd : text.drop p = text[p] :: text.drop (p + 1) := List.drop_eq_getElem_cons hl
    have ih := subTo1 text k (p + 1) (by omega)
    have hb : (p + 1 == 0 || text.toArray.getD (p + 1 - 1) 0 == 10) = (text[p] == 10) := by
      rw [Nat.add_sub_cancel, getD_of_lt hl]; rfl
    rw [hb] at ih
    rw [hd]
    cases hh : hit1 text.toArray p with
    | true =>
      have h2 : (p == 0 || text.toArray.getD (p - 1) 0 == 10) = true ∧ text[p] = 46 := by
        unfold hit1 at hh
        rw [Bool.and_eq_true] at hh
        refine ⟨hh.1, ?_⟩
        have := hh.2
        rw [getD_of_lt hl] at this
        simpa using this
      have := SubTo.hit (R := [46, 46]) p p _ (Nat.le_refl _) hl hh (fun j j1 j2 => by omega) (Nat.lt_succ_self _) (by omega) ih
      rw [Nat.sub_self, List.take_zero, List.nil_append] at this
      unfold dots
      rw [if_pos h2]
      exact this
    | false =>
      have := ih.ext hl hh
      unfold dots
      rw [if_neg]
      · exact this
      · rintro ⟨a, b⟩
        unfold hit1 at hh
        rw [a, getD_of_lt hl, b] at hh
        exact Bool.noConfusion hh
theorem crlf_flag {r : List Nat} (h : r.head? ≠ some 10) : crlf true r = crlf false r := by
  cases r with
  | nil => rfl
  | cons c r =>
    have hc : c ≠ 10 := fun e => h (by rw [e]; rfl)
    unfold crlf
    rw [if_neg hc, if_neg hc]
theorem subTo2 (text : List Nat) : ∀ (k p : Nat), p ≤ text.length → text.length < p + k →
    SubTo (hit2 text.toArray) (end2 text.toArray text.length) text [13, 10] text.length p (crlf false (text.drop p))
  | 0, p, h1, h2 => by omega
  | k + 1, p, h1, h2 => by
    by_cases hl : p < text.length
    · have hd : text.drop p = text[p] :: text.drop (p + 1) := List.drop_eq_getElem_cons hl
      have ih := subTo2 text k (p + 1) (by omega) (by omega)
      rw [hd]
      by_cases h13 : text[p] = 13
      · have hh : hit2 text.toArray p = true := by unfold hit2; rw [getD_of_lt hl, h13]; rfl
        by_cases h10 : p + 1 < text.length ∧ text.toArray.getD (p + 1) 0 = 10
        · have he : end2 text.toArray text.length p = p + 2 := by unfold end2; rw [if_pos ⟨by rw [getD_of_lt hl]; exact h13, h10⟩]
          have ih2 := subTo2 text k (p + 2) (by omega) (by omega)
          have := SubTo.hit (R := [13, 10]) (hit := hit2 text.toArray) (fin := end2 text.toArray text.length) p p _ (Nat.le_refl _) hl hh (fun j j1 j2 => by omega) (by omega) (by omega) (by rw [he]; exact ih2)
          rw [Nat.sub_self, List.take_zero, List.nil_append] at this
          have hd2 : text.drop (p + 1) = text[p + 1] :: text.drop (p + 2) := List.drop_eq_getElem_cons h10.1
          have e10 : text[p + 1] = 10 := by rw [← getD_of_lt h10.1]; exact h10.2
          have : SubTo (hit2 text.toArray) (end2 text.toArray text.length) text [13, 10] text.length p (crlf false (13 :: 10 :: text.drop (p + 2))) := this
          rw [h13, hd2, e10]
          exact this
        · have he : end2 text.toArray text.length p = p + 1 := by unfold end2; rw [if_neg (fun q => h10 q.2)]
          have := SubTo.hit (R := [13, 10]) (hit := hit2 text.toArray) (fin := end2 text.toArray text.length) p p _ (Nat.le_refl _) hl hh (fun j j1 j2 => by omega) (by omega) (by omega) (by rw [he]; exact ih)
          rw [Nat.sub_self, List.take_zero, List.nil_append] at this
          have hf : crlf true (text.drop (p + 1)) = crlf false (text.drop (p + 1)) := crlf_flag (fun q => by
            by_cases hp : p + 1 < text.length
            · rw [List.drop_eq_getElem_cons hp] at q
              exact h10 ⟨hp, by rw [getD_of_lt hp]; exact Option.some.inj q⟩
            · rw [List.drop_of_length_le (by omega)] at q; cases q)
          rw [h13]
          show SubTo _ _ _ _ _ _ (13 :: 10 :: crlf true (text.drop (p + 1)))
          rw [hf]
          exact this
      · by_cases h10 : text[p] = 10
        · have hh : hit2 text.toArray p = true := by unfold hit2; rw [getD_of_lt hl, h10]; rfl
          have he : end2 text.toArray text.length p = p + 1 := by unfold end2; rw [if_neg (fun q => by have := q.1; rw [getD_of_lt hl] at this; exact h13 this)]
          have := SubTo.hit (R := [13, 10]) (hit := hit2 text.toArray) (fin := end2 text.toArray text.length) p p _ (Nat.le_refl _) hl hh (fun j j1 j2 => by omega) (by omega) (by omega) (by rw [he]; exact ih)
          rw [Nat.sub_self, List.take_zero, List.nil_append] at this
          rw [h10]
          exact this
        · have hh : hit2 text.toArray p = false := by
            unfold hit2; rw [getD_of_lt hl]
            simp [h10, h13]
          have := ih.ext hl hh
          unfold crlf
          rw [if_neg h10, if_neg h13]
          exact this
    · have h0 : text.drop p = [] := List.drop_of_length_le (by omega)
      have := SubTo.stop (hit := hit2 text.toArray) (fin := end2 text.toArray text.length) (text := text) (R := [13, 10]) (lim := text.length) p (fun j h1 h2 => by omega)
      rw [h0] at this ⊢
      exact this
end Mine

end
section
open PySem PySem.W PyProof.Rows
set_option Elab.async false
set_option maxRecDepth 100000
set_option linter.unusedVariables false
namespace Mine
open PySem.Builtin.Str in
theorem idx_gen (lo hi : Option Int) (n a b : Nat) (ha : (a : Int) = (match lo with | none => 0 | some i => max 0 (min (if i < 0 then i + n else i) n)))
    (hb : (b : Int) = (match hi with | none => (n : Int) | some i => max 0 (min (if i < 0 then i + n else i) n))) :
    strSliceIndices lo hi 1 n = (List.range (b - a)).map (fun k => a + k) := by
  have key : ∀ A B : Int, A = a → B = b → sliceRange A B 1 = (List.range (b - a)).map (fun k => a + k) := by
    rintro A B rfl rfl
    unfold sliceRange
    simp only [show ((1 : Int) > 0) = True from by simp, if_true]
    by_cases hlt : (a : Int) < b
    · have e3 : (((b : Int) - a + 1 - 1) / 1).toNat = b - a := by rw [Int.ediv_one]; omega
      simp only [hlt, if_true, e3]
      refine List.map_congr_left fun k _ => ?_
      omega
    · have : b - a = 0 := by omega
      simp [hlt, this]
  unfold strSliceIndices
  cases lo <;> cases hi <;> (simp only [show ((1 : Int) > 0) = True from by simp, if_true]; exact key _ _ (by rw [ha]) (by rw [hb]))
theorem slice_gen (x : Str) (lo hi : Option Int) (a b : Nat) (ha : (a : Int) = (match lo with | none => 0 | some i => max 0 (min (if i < 0 then i + x.length else i) x.length)))
    (hb : (b : Int) = (match hi with | none => (x.length : Int) | some i => max 0 (min (if i < 0 then i + x.length else i) x.length))) :
    Txt.slice x lo hi = ⟨((x.cps.toList.drop a).take (b - a)).toArray⟩ := by
  have han : a ≤ x.length := by cases lo <;> simp at ha <;> omega
  have hbn : b ≤ x.length := by cases hi <;> simp at hb <;> omega
  have hl : x.cps.toList.length = x.length := Array.length_toList
  have hi' := idx_gen lo hi x.length a b ha hb
  unfold Txt.slice
  rw [hi']
  have hp := StrLaws.picks x.cps.toList (b - a) a
  by_cases hab : a ≤ b
  · have hp := hp (by omega)
    by_cases hfull : b - a = x.length
    · have h0 : a = 0 := by omega
      rw [if_pos (by simp [hfull])]
      subst h0
      rw [List.drop_zero, List.take_of_length_le (by omega)]
    · rw [if_neg (by simp [hfull])]
      congr 1
      have e : (fun i : Nat => x.cps[i]?) = (fun i : Nat => x.cps.toList[i]?) := by funext i; simp
      rw [e, hp]
  · have h0 : b - a = 0 := by omega
    rw [h0]
    by_cases hn : x.length = 0
    · rw [if_pos (by simp [hn])]
      have : x.cps = #[] := by
        have : x.cps.size = 0 := hn
        exact Array.eq_empty_of_size_eq_zero this
      obtain ⟨c⟩ := x
      simp only at this
      subst this
      simp
    · rw [if_neg (by simp; omega)]
      simp
theorem item_gen (x : Str) (i : Int) (h0 : 0 ≤ i) (h1 : i < x.length) : Txt.item x i = ⟨#[x.cps.getD i.toNat 0]⟩ := by
  unfold Txt.item Txt.charAt seqIndex?
  have h : x.cps.size = x.length := rfl
  have e1 : ¬ i < 0 := by omega
  simp only [e1, if_false]
  rw [if_pos (by simp; omega)]
  show (⟨#[(x.cps[i.toNat]?).getD 0]⟩ : Str) = _
  rw [Array.getD_eq_getD_getElem?]
theorem str_app (a b : Str) : (a ++ b).cps.toList = a.cps.toList ++ b.cps.toList := by
  show (a.cps ++ b.cps).toList = _
  simp
theorem len_toList (v : Str) : v.cps.toList.length = v.length := Array.length_toList
theorem str_len (l : List Nat) : (Str.mk l.toArray).length = l.length := by show l.toArray.size = _; exact List.size_toArray
theorem getD_toList (v : Str) (i : Nat) : v.cps.getD i 0 = v.cps.toList.getD i 0 := by
  rw [Array.getD_eq_getD_getElem?, List.getD_eq_getElem?_getD]; simp

/-- what is told between two quotation marks: a doubled one is one, a single one ends it -/
noncomputable def unq : Bool → List Nat → List Nat
  | _, [] => []
  | false, c :: r => if c = 34 then unq true r else c :: unq false r
  | true, c :: r => if c = 34 then 34 :: unq false r else []
theorem unq_nil (b : Bool) : unq b [] = [] := by cases b <;> rfl
theorem unq_f (c : Nat) (r : List Nat) : unq false (c :: r) = if c = 34 then unq true r else c :: unq false r := rfl
theorem unq_t (c : Nat) (r : List Nat) : unq true (c :: r) = if c = 34 then 34 :: unq false r else [] := rfl
noncomputable def pF (v : Str) : Str := if (v.cps.toList.drop 3).take 2 = [32, 34] then ⟨(unq false (v.cps.toList.drop 5)).toArray⟩ else ⟨#[]⟩
noncomputable def PInv (v : Str) (i : Int) (d : Str) : Prop := unq false (v.cps.toList.drop 5) = d.cps.toList ++ unq false (v.cps.toList.drop i.toNat)
theorem slice_257 (v : Str) : Txt.slice v none (some 3) = ⟨(v.cps.toList.take 3).toArray⟩ := by
  rw [slice_gen v none (some 3) 0 (min 3 v.length) rfl (by simp only; rw [if_neg (by omega)]; omega), List.drop_zero, Nat.sub_zero]
  congr 2
  by_cases h : v.length ≤ 3
  · rw [List.take_of_length_le (by rw [len_toList]; omega), List.take_of_length_le (by rw [len_toList]; omega)]
  · rw [show min 3 v.length = 3 by omega]
theorem slice_35 (v : Str) : Txt.slice v (some 3) (some 5) = ⟨((v.cps.toList.drop 3).take 2).toArray⟩ := by
  rw [slice_gen v (some 3) (some 5) (min 3 v.length) (min 5 v.length) (by simp only; rw [if_neg (by omega)]; omega) (by simp only; rw [if_neg (by omega)]; omega)]
  congr 2
  have hl := len_toList v
  by_cases h : v.length ≤ 3
  · rw [List.drop_of_length_le (l := v.cps.toList) (i := 3) (by omega), List.drop_of_length_le (by omega), List.take_nil, List.take_nil]
  · rw [show min 3 v.length = 3 by omega]
    by_cases h5 : v.length ≤ 5
    · rw [List.take_of_length_le (by rw [List.length_drop]; omega), List.take_of_length_le (by rw [List.length_drop]; omega)]
    · rw [show min 5 v.length - 3 = 2 by omega]
theorem is_257 (v : Str) : (Txt.slice v none (some 3) != PySem.Str.ofString "257") = !decide (v.cps.toList.take 3 = [50, 53, 55]) := by
  rw [slice_257]
  have e : PySem.Str.ofString "257" = ⟨#[50, 53, 55]⟩ := by decide +kernel
  rw [e]
  by_cases h : v.cps.toList.take 3 = [50, 53, 55]
  · rw [h]; simp
  · simp only [bne, h, decide_false, Bool.not_false]
    rw [beq_eq_false_iff_ne.mpr]; rfl
    intro q
    injection q with q
    exact h (by have := congrArg Array.toList q; exact this)
theorem is_q (v : Str) : (Txt.slice v (some 3) (some 5) != PySem.Str.ofString " \"") = !decide ((v.cps.toList.drop 3).take 2 = [32, 34]) := by
  rw [slice_35]
  have e : PySem.Str.ofString " \"" = ⟨#[32, 34]⟩ := by decide +kernel
  rw [e]
  by_cases h : (v.cps.toList.drop 3).take 2 = [32, 34]
  · rw [h]; simp
  · simp only [bne, h, decide_false, Bool.not_false]
    rw [beq_eq_false_iff_ne.mpr]; rfl
    intro q
    injection q with q
    exact h (by have := congrArg Array.toList q; exact this)
theorem len_ge5 {v : Str} (h : (v.cps.toList.drop 3).take 2 = [32, 34]) : 5 ≤ v.length := by
  have := congrArg List.length h
  rw [List.length_take, List.length_drop, len_toList] at this
  simp at this
  omega
theorem pinv_start (v : Str) : PInv v 5 (PySem.Str.ofString "") := by
  unfold PInv
  rw [show PySem.Str.ofString "" = ⟨#[]⟩ from by decide +kernel]
  rfl
theorem drop_at {v : Str} {i : Int} (h0 : 0 ≤ i) (h1 : i < v.length) : v.cps.toList.drop i.toNat = v.cps.getD i.toNat 0 :: v.cps.toList.drop (i + 1).toNat := by
  have hl : i.toNat < v.cps.toList.length := by rw [len_toList]; omega
  rw [List.drop_eq_getElem_cons hl, getD_toList, List.getD_eq_getElem?_getD, List.getElem?_eq_getElem hl, show (i + 1).toNat = i.toNat + 1 by omega]
  rfl
theorem q34 : PySem.Str.ofString "\"" = ⟨#[34]⟩ := by decide +kernel
theorem item_q {v : Str} {i : Int} (h0 : 0 ≤ i) (h1 : i < v.length) : (Txt.item v i == PySem.Str.ofString "\"") = decide (v.cps.getD i.toNat 0 = 34) := by
  rw [item_gen v i h0 h1, q34]
  by_cases h : v.cps.getD i.toNat 0 = 34
  · rw [h]; simp
  · simp only [h, decide_false]
    rw [beq_eq_false_iff_ne]
    intro q
    injection q with q
    have := congrArg (fun a => a.toList.headD 0) q
    exact h this
/-- a sign that is no quotation mark is told -/
theorem pinv_other {v d : Str} {i : Int} (h : PInv v i d) (h0 : 5 ≤ i) (h1 : i < v.length) (hq : (Txt.item v i == PySem.Str.ofString "\"") = false) : PInv v (i + 1) (d ++ Txt.item v i) := by
  rw [item_q (by omega) h1, decide_eq_false_iff_not] at hq
  unfold PInv at h ⊢
  rw [h, str_app, List.append_assoc, drop_at (by omega) h1, item_gen v i (by omega) h1]
  rw [unq_f, if_neg hq]
  rfl
/-- two quotation marks: one is told -/
theorem pinv_two {v d : Str} {i : Int} (h : PInv v i d) (h0 : 5 ≤ i) (h1 : i + 1 < v.length) (hq : (Txt.item v i == PySem.Str.ofString "\"") = true) (hq2 : (Txt.item v (i + 1) != PySem.Str.ofString "\"") = false) : PInv v (i + 1 + 1) (d ++ Txt.item v i) := by
  rw [item_q (by omega) (by omega), decide_eq_true_eq] at hq
  have hq2' : (Txt.item v (i + 1) == PySem.Str.ofString "\"") = true := by simpa [bne] using hq2
  rw [item_q (by omega) (by omega), decide_eq_true_eq] at hq2'
  unfold PInv at h ⊢
  rw [h, str_app, List.append_assoc, drop_at (by omega) (by omega), drop_at (i := i + 1) (by omega) (by omega), item_gen v i (by omega) (by omega), hq, hq2']
  rw [unq_f, if_pos rfl, unq_t, if_pos rfl]
  rfl
/-- a single one ends it -/
theorem pinv_end1 {v d : Str} {i : Int} (h : PInv v i d) (h0 : 5 ≤ i) (h1 : i < v.length) (hl : (v.length : Int) ≤ i + 1) (hq : (Txt.item v i == PySem.Str.ofString "\"") = true) : unq false (v.cps.toList.drop 5) = d.cps.toList := by
  rw [item_q (by omega) (by omega), decide_eq_true_eq] at hq
  unfold PInv at h
  rw [h, drop_at (by omega) h1, hq, List.drop_of_length_le (by rw [len_toList]; omega)]
  rw [unq_f, if_pos rfl, unq_nil, List.append_nil]
theorem pinv_end2 {v d : Str} {i : Int} (h : PInv v i d) (h0 : 5 ≤ i) (h1 : i + 1 < v.length) (hq : (Txt.item v i == PySem.Str.ofString "\"") = true) (hq2 : (Txt.item v (i + 1) != PySem.Str.ofString "\"") = true) : unq false (v.cps.toList.drop 5) = d.cps.toList := by
  rw [item_q (by omega) (by omega), decide_eq_true_eq] at hq
  have hq2' : (Txt.item v (i + 1) == PySem.Str.ofString "\"") = false := by simpa [bne] using hq2
  rw [item_q (by omega) (by omega), decide_eq_false_iff_not] at hq2'
  unfold PInv at h
  rw [h, drop_at (by omega) (by omega), drop_at (i := i + 1) (by omega) (by omega), hq]
  rw [unq_f, if_pos rfl, unq_t, if_neg hq2', List.append_nil]
theorem pinv_out {v d : Str} {i : Int} (h : PInv v i d) (hl : ¬ i < v.length) : unq false (v.cps.toList.drop 5) = d.cps.toList := by
  unfold PInv at h
  rw [h, List.drop_of_length_le (by rw [len_toList]; omega)]
  rw [unq_nil, List.append_nil]
theorem pF_of {v d : Str} (hq : (v.cps.toList.drop 3).take 2 = [32, 34]) (h : unq false (v.cps.toList.drop 5) = d.cps.toList) : pF v = d := by
  unfold pF
  rw [if_pos hq, h]
theorem item_len (v : Str) (i : Int) : (Txt.item v i).length = 1 := rfl
theorem app_len (a b : Str) : (a ++ b).length = a.length + b.length := by
  rw [← len_toList, ← len_toList, ← len_toList, str_app, List.length_append]
end Mine

end
section
open PySem PySem.W PyProof.Rows
set_option Elab.async false
set_option maxRecDepth 100000
set_option linter.unusedVariables false
namespace Mine
section
variable {prog : Program} {w : World} {A : Around} {E : Value → Shared → Prop} {s : Shared} {h₀ : Heap} {L : Addr} {m : Str → Option Value} {news : List (Addr × Obj)} {x : Str} {tx tr : Tok}
theorem gm_sub1 {pl : Sem Bool} {Q : Value × List Value → Shared → Prop} (X : (K w.params).In h₀) (F : Fr h₀ L s.heap m) (h : Q (.builtin "re.Pattern.sub", [.ref 132]) s) : wpAny (model prog w) A (getMethod (.ref 132) (PySem.Str.ofString "sub") pl) Q E s :=
  (Looks.of_peek (X.keeps F.keep) (by kernel_rfl)).here h
theorem gm_sub2 {pl : Sem Bool} {Q : Value × List Value → Shared → Prop} (X : (K w.params).In h₀) (F : Fr h₀ L s.heap m) (h : Q (.builtin "re.Pattern.sub", [.ref 137]) s) : wpAny (model prog w) A (getMethod (.ref 137) (PySem.Str.ofString "sub") pl) Q E s :=
  (Looks.of_peek (X.keeps F.keep) (by kernel_rfl)).here h
theorem call_sub1 {Q : Value → Shared → Prop} (X : (K w.params).In h₀) (F : Fr h₀ L s.heap m) (N : News h₀ L s.heap news) (hx : x.length ≤ 1000000)
    (h : ∀ h' t tk', Fr h₀ L h' m → News h₀ L h' news → Q (.str ⟨(dots true x.cps.toList).toArray⟩ t) { s with heap := h', toks := tk' }) :
    wpAny (model prog w) A (call (.builtin "re.Pattern.sub") [.ref 132, .str (PySem.Str.ofString "..") tr, .str x tx]) Q E s := by
  have S := subTo1 x.cps.toList x.cps.size 0 (by rw [Nat.zero_add, Array.length_toList])
  rw [Array.length_toList] at S
  exact sub_call (c := c1) (sub_tree1 _ _ _ _) (Looks.of_peek X (by kernel_rfl)) (Looks.of_peek X (by kernel_rfl)) F N (fun p hp => finds1 x.cps x.cps.size p hp) hx (by decide) S h
theorem call_sub2 {Q : Value → Shared → Prop} (X : (K w.params).In h₀) (F : Fr h₀ L s.heap m) (N : News h₀ L s.heap news) (hx : x.length ≤ 1000000)
    (h : ∀ h' t tk', Fr h₀ L h' m → News h₀ L h' news → Q (.str ⟨(crlf false x.cps.toList).toArray⟩ t) { s with heap := h', toks := tk' }) :
    wpAny (model prog w) A (call (.builtin "re.Pattern.sub") [.ref 137, .str (PySem.Str.mk #[13, 10]) tr, .str x tx]) Q E s := by
  have S := subTo2 x.cps.toList (x.cps.size + 1) 0 (Nat.zero_le _) (by rw [Array.length_toList]; omega)
  rw [Array.length_toList] at S
  exact sub_call (c := c2) (sub_tree2 _ _ _ _) (Looks.of_peek X (by kernel_rfl)) (Looks.of_peek X (by kernel_rfl)) F N (fun p hp => finds2 x.cps x.cps.size p hp) hx (by decide) S h
end
theorem crlf_len : ∀ (b : Bool) (l : List Nat), (crlf b l).length ≤ 2 * l.length
  | _, [] => Nat.le_refl _
  | b, c :: r => by
    have h1 := crlf_len false r
    have h2 := crlf_len true r
    unfold crlf
    split
    · split <;> simp only [List.length_cons] <;> omega
    · split <;> simp only [List.length_cons] <;> omega
end Mine

end
section
open PySem PySem.W PyProof.Rows
set_option Elab.async false
set_option maxRecDepth 100000
set_option linter.unusedVariables false
namespace Mine
noncomputable def quoteS (v : Str) : Str := ⟨(dots true (crlf false v.cps.toList)).toArray⟩
theorem crlfS_len (v : Str) : (Str.mk (crlf false v.cps.toList).toArray).length ≤ 2 * v.length := by
  rw [str_len]; have := crlf_len false v.cps.toList; rw [Array.length_toList] at this; exact this
local macro_rules | `(tactic| walk_at "getMethod ref") => `(tactic| (k_here; k_dflt (first | (refine gm_sub1 (by k_asm) (by k_asm) ?_) | (refine gm_sub2 (by k_asm) (by k_asm) ?_))))
local macro_rules | `(tactic| walk_at "call builtin:re.Pattern.sub") => `(tactic| (k_here; k_dflt (first | (refine call_sub1 (by k_asm) (by k_asm) (by k_asm) (by first | assumption | (have := crlfS_len; simp only [str_len] at *; omega)) ?_; intro h' t' k' F' N') | (refine call_sub2 (by k_asm) (by k_asm) (by k_asm) (by first | assumption | omega) ?_; intro h' t' k' F' N'))))
set_option maxHeartbeats 8000000 in
theorem quote {w : World} {mean : ExcName → Option Value} {mg mb : Str → Option Value} {news : List (Addr × Obj)} (v : Str) (t : Tok) :
  CbClaim PySem.Challenge.rw_tr0050_03.prog w (K w.params) q01 (looseW q01 loose01) mean mg mb 144 news [] (v.length ≤ 400000) [.str v t] (fun t => .str (quoteS v) t) := by
  k_fill
  dsimp only [CbClaim, CbLists, CbRet]
  intros
  rename_i hret
  have hlc := crlfS_len v
  refine wpAny_call ?_
  k_dflt cell_enter
  k_steps
  all_goals (exact hret _ _ _ (by assumption) (by assumption))
end Mine

end
section
open PySem PySem.W PyProof.Rows
set_option Elab.async false
set_option maxRecDepth 100000
set_option linter.unusedVariables false
namespace Mine
noncomputable def isB1 (c : Nat) : Bool := b1ents.any fun e => decide (e.1 = (c : Int))
noncomputable def b3F (c : Nat) : Option PySem.Str := (b3pairs.find? fun p => decide (p.1 = (c : Int))).map (·.2)
theorem b1_ok : (b1ents.all fun e => match e.2 with | .int i _ => e.1 == i && hashInt i == e.1 | _ => false) = true := by decide +kernel
theorem b3_ok : (b3ents.all fun e => match e.key with | .int i _ => e.hash == i && hashInt i == i | _ => false) = true := by decide +kernel
section
variable {prog : Program} {w : World} {A : Around} {E : Value → Shared → Prop} {s : Shared} {h₀ : Heap} {L : Addr} {m : Str → Option Value} {news : List (Addr × Obj)} {x : Str} {tx tr : Tok}
theorem b1_ent {e : Int × Value} (h : e ∈ b1ents) : ∃ i t, e = (i, .int i t) ∧ hashInt i = i := by
  have := List.all_eq_true.mp b1_ok e h
  obtain ⟨a, v⟩ := e
  cases v with
  | int i t =>
    simp only [Bool.and_eq_true, beq_iff_eq] at this
    exact ⟨i, t, by rw [this.1], this.2.trans this.1⟩
  | _ => exact Bool.noConfusion this
theorem b1_set (X : (K w.params).In h₀) (F : Fr h₀ L s.heap m) : s.heap.SetOf (intKind prog w) 39 (fun k => b1ents.any fun e => decide (e.1 = k)) b1ents.length := by
  refine ⟨o39 w.params, b1ents.toArray, 29, _, F.keep _ _ (X 39 _ rfl), ⟨rfl, rfl, rfl⟩, rfl, fun e he => ?_, fun k => ?_, by decide +kernel, by kernel_rfl, by rw [List.size_toArray]⟩
  · obtain ⟨i, t, rfl, hh⟩ := b1_ent he
    exact ⟨⟨i, by show (i == i) = true; simp, hh.symm⟩, rfl⟩
  · rw [List.any_eq_true]
    constructor
    · rintro ⟨e, he, hd⟩
      obtain ⟨i, t, rfl, hh⟩ := b1_ent he
      exact ⟨_, he, by show (i == k) = true; simpa using hd⟩
    · rintro ⟨e, he, hd⟩
      obtain ⟨i, t, rfl, hh⟩ := b1_ent he
      exact ⟨_, he, by have : (i == k) = true := hd; simpa using this⟩
theorem in_b1 {Q : Value → Shared → Prop} {c : Nat} {t : Tok} (X : (K w.params).In h₀) (F : Fr h₀ L s.heap m) (h : Q (.bool (isB1 c)) { s with toks := s.toks + 1 }) :
    wpAny (model prog w) A (compareOp .In (.int (c : Int) t) (.ref 39)) Q E s :=
  wpAny_inSet_of (knd := intKind prog w) (k := (c : Int)) (by show ((c : Int) == (c : Int)) = true; simp) rfl (b1_set X F) h

theorem gm_get {pl : Sem Bool} {Q : Value × List Value → Shared → Prop} (X : (K w.params).In h₀) (F : Fr h₀ L s.heap m) (h : Q (.builtin "dict.get", [.ref 50]) s) : wpAny (model prog w) A (getMethod (.ref 50) (PySem.Str.ofString "get") pl) Q E s :=
  (Looks.of_peek (X.keeps F.keep) (by kernel_rfl)).here h
theorem entsAt_find (k : Nat) (c : Int) : ∀ (t : Nat) (l : List (Int × PySem.Str)),
    (∀ y, ((l.find? fun p => decide (p.1 = c)).map (·.2)) = some y → ∃ u, ((entsAt k t l).find? fun e => Value.isInt c e.key).map (·.val) = some (.str y u)) ∧
    (((l.find? fun p => decide (p.1 = c)).map (·.2)) = none → ((entsAt k t l).find? fun e => Value.isInt c e.key).map (·.val) = none)
  | _, [] => ⟨fun y h => (by cases h), fun _ => rfl⟩
  | t, (i, x) :: r => by
    have ih := entsAt_find k c (t + k) r
    unfold entsAt
    rw [List.find?_cons, List.find?_cons]
    by_cases e : i = c
    · have e1 : decide (i = c) = true := by simpa using e
      have e2 : Value.isInt c (.int i t) = true := by show (i == c) = true; simpa using e
      simp only [e1, e2]
      exact ⟨fun y h => ⟨t + 1, by cases h; rfl⟩, fun h => by cases h⟩
    · have e1 : decide (i = c) = false := by simpa using e
      have e2 : Value.isInt c (.int i t) = false := by show (i == c) = false; simpa using e
      simp only [e1, e2]
      exact ih
theorem b3_find (c : Nat) : (∀ y, b3F c = some y → ∃ u, findBy Value.isInt b3ents.toArray (c : Int) = some (.str y u)) ∧ (b3F c = none → findBy Value.isInt b3ents.toArray (c : Int) = none) := by
  have hs : ∀ n, b3pairs = b3pairs.take n ++ b3pairs.drop n := fun n => (List.take_append_drop n b3pairs).symm
  have key : ∀ (n a b t u : Nat), (∀ y, (((b3pairs.take n ++ b3pairs.drop n).find? fun p => decide (p.1 = (c : Int))).map (·.2)) = some y → ∃ v, ((entsAt a t (b3pairs.take n) ++ entsAt b u (b3pairs.drop n)).find? fun e => Value.isInt c e.key).map (·.val) = some (.str y v)) ∧
      ((((b3pairs.take n ++ b3pairs.drop n).find? fun p => decide (p.1 = (c : Int))).map (·.2)) = none → ((entsAt a t (b3pairs.take n) ++ entsAt b u (b3pairs.drop n)).find? fun e => Value.isInt c e.key).map (·.val) = none) := by
    intro n a b t u
    have h1 := entsAt_find a c t (b3pairs.take n)
    have h2 := entsAt_find b c u (b3pairs.drop n)
    rw [List.find?_append, List.find?_append]
    cases hq : (b3pairs.take n).find? fun p => decide (p.1 = (c : Int)) with
    | some p =>
      obtain ⟨v, hv⟩ := h1.1 p.2 (by rw [hq]; rfl)
      cases hz : (entsAt a t (b3pairs.take n)).find? fun e => Value.isInt c e.key with
      | none => rw [hz] at hv; cases hv
      | some e =>
        rw [hz] at hv
        refine ⟨fun y h => ⟨v, ?_⟩, fun h => by cases h⟩
        cases h
        exact hv
    | none =>
      have hv := h1.2 (by rw [hq]; rfl)
      cases hz : (entsAt a t (b3pairs.take n)).find? fun e => Value.isInt c e.key with
      | some e => rw [hz] at hv; cases hv
      | none => exact h2
  unfold b3F b3ents findBy
  simp only [List.find?_toArray]
  have := key 646 3 2 351 2289
  rw [← hs 646] at this
  exact this
theorem b3_map (X : (K w.params).In h₀) (F : Fr h₀ L s.heap m) : s.heap.MapOf (intKind prog w) 50 (findBy Value.isInt b3ents.toArray) := by
  refine ⟨o50 w.params, b3ents.toArray, 650, F.keep _ _ (X 50 _ rfl), ⟨rfl, rfl, rfl⟩, rfl, fun e he => ?_, fun k => rfl⟩
  have := List.all_eq_true.mp b3_ok e (by simpa using he)
  cases hk : e.key with
  | int i t =>
    rw [hk] at this
    simp only [Bool.and_eq_true, beq_iff_eq] at this
    exact ⟨i, (by show (i == i) = true; simp), this.1.trans this.2.symm⟩
  | _ => rw [hk] at this; exact Bool.noConfusion this
theorem call_get {Q : Value → Shared → Prop} {c : Nat} {t : Tok} (X : (K w.params).In h₀) (F : Fr h₀ L s.heap m) (h1 : ∀ y u, b3F c = some y → Q (.str y u) { s with toks := s.toks + 1 }) (h2 : b3F c = none → Q .none { s with toks := s.toks + 1 }) :
    wpAny (model prog w) A (call (.builtin "dict.get") [.ref 50, .int (c : Int) t]) Q E s := by
  have M := b3_map (prog := prog) (s := s) X F
  refine call_meetsIn PySem.F.slot_dict_get ⟨_, F.keep _ _ (X 50 _ rfl), rfl⟩ PySem.F.entry_dict_get (PySem.F.args_dict_get_2 _ _) (meets_dict_get (knd := intKind prog w) (k := (c : Int)) 50 (by show ((c : Int) == (c : Int)) = true; simp) rfl) ⟨_, M, ?_⟩
  cases hb : b3F c with
  | some y =>
    obtain ⟨u, hu⟩ := (b3_find c).1 y hb
    rw [hu]
    exact h1 y u hb
  | none =>
    rw [(b3_find c).2 hb]
    exact h2 hb
end
end Mine

end
section
open PySem PySem.W PyProof.Rows
set_option Elab.async false
set_option maxRecDepth 100000
set_option linter.unusedVariables false
namespace Mine
noncomputable def mapF (v : Str) : Str := (b3F (v.cps.getD 0 0)).getD (Txt.lower v)
local macro_rules | `(tactic| walk_at "getMethod ref") => `(tactic| (k_here; k_dflt (refine gm_get (by k_asm) (by k_asm) ?_)))
local macro_rules | `(tactic| walk_at "compareOp In") => `(tactic| (k_here; k_dflt (refine in_b1 (by k_asm) (by k_asm) ?_)))
local macro_rules | `(tactic| walk_at "call builtin:dict.get") => `(tactic| (k_here; k_dflt (refine call_get (by k_asm) (by k_asm) (fun y' u' hy' => ?_) (fun hn' => ?_))))
set_option maxHeartbeats 8000000 in
theorem inb1 {w : World} {mean : ExcName → Option Value} {mg mb : Str → Option Value} {news : List (Addr × Obj)} (v : Str) (t : Tok) :
  CbClaim PySem.Challenge.rw_tr0050_03.prog w (K w.params) q01 (looseW q01 loose01) mean mg mb 49 news [] (v.length = 1) [.str v t] (fun t => .bool (isB1 (v.cps.getD 0 0))) := by
  k_fill
  dsimp only [CbClaim, CbLists, CbRet]
  intros
  rename_i hret
  refine wpAny_call ?_
  k_dflt cell_enter
  k_steps
  all_goals (exact hret 0 _ _ (by assumption) (by assumption))
set_option maxHeartbeats 8000000 in
theorem mapb3 {w : World} {mean : ExcName → Option Value} {mg mb : Str → Option Value} {news : List (Addr × Obj)} (v : Str) (t : Tok) :
  CbClaim PySem.Challenge.rw_tr0050_03.prog w (K w.params) q01 (looseW q01 loose01) mean mg mb 95 news [] (v.length = 1 ∧ (Txt.lower v).length ≤ 1000) [.str v t] (fun t => .str (mapF v) t) := by
  k_fill
  dsimp only [CbClaim, CbLists, CbRet]
  intros
  rename_i hret
  refine wpAny_call ?_
  k_dflt cell_enter
  k_steps
  · rename b3F _ = some _ => hy
    have e := congrArg (fun o => Option.getD o (Txt.lower v)) hy
    rw [show mapF v = _ from e] at hret
    exact hret _ _ _ (by assumption) (by assumption)
  · rename b3F _ = none => hy
    have e := congrArg (fun o => Option.getD o (Txt.lower v)) hy
    rw [show mapF v = _ from e] at hret
    exact hret _ _ _ (by assumption) (by assumption)
end Mine

end
section
open PySem PySem.W PyProof.Rows
set_option Elab.async false
set_option maxRecDepth 100000
set_option linter.unusedVariables false
namespace Mine
noncomputable abbrev CbClaimE (prog : Program) (w : World) (K : Frag) (p : Program) (loose : List Str) (mean : ExcName → Option Value) (mg mb : Str → Option Value) (f : Addr) (news : List (Addr × Obj)) (pre : Prop) (vs : List Value) (R : Tok → Value) (bad : Prop) (xc : Value) (xs : List Value) : Prop :=
  ∀ (dp un : Nat) (gd : Option (List Code)) (cn : Str) (cs : Scope) (a : Addr) (ccd : Value) (cl : List (Str × Addr)) (outer : List Env) (A₀ : Around) (base h₀ : Heap) (L : Addr) (m : Str → Option Value) (s : Shared) (Q E : Value → Shared → Prop),
    Below A₀ base outer h₀ → Fr h₀ L s.heap m → K.In h₀ → News h₀ L s.heap news → Top p loose mean mg mb h₀ → cs.kind = .function →
    pre → dp + 1 < recursionLimit → un + 8 < cLine → (¬ bad → CbRet h₀ L m news s Q R) →
    (bad → ∀ (e t' : Addr) (g h' : Heap) (tk' : Nat), Fr h₀ L g m → RaisedK base (envX cn cs L a ccd cl :: outer) e xc t' xs news h' → g.UpToSlots h' → E (.ref e) { s with heap := h', toks := tk' }) →
      wpAny (model prog w) (ktrTop dp un gd cn cs L a ccd cl outer) (call (.ref f) vs) Q E s
noncomputable def Stop (P : Prop) : Prop := P
theorem Stop.intro {P : Prop} (h : Stop P) : P := h
local macro_rules | `(tactic| walk_at "exec") => `(tactic| ((with_reducible show wpAny _ _ (exec (Stmt.While _ _ _ _) _) _ _ _); with_reducible refine Stop.intro ?_))
set_option maxHeartbeats 8000000 in
theorem p257 {w : World} {mean : ExcName → Option Value} {mg mb : Str → Option Value} {news : List (Addr × Obj)} (v : Str) (t : Tok) :
  CbClaimE PySem.Challenge.rw_tr0050_03.prog w (K w.params) q01 (looseW q01 loose01) mean mg mb 127 news (v.length ≤ 1000000) [.str v t] (fun t => .str (pF v) t) (¬ v.cps.toList.take 3 = [50, 53, 55]) (.ref 118) [.str v t] := by
  k_with "state" => first
    | exact ⟨Int.le_refl _, by omega, by simp; omega, pinv_start _⟩
    | exact ⟨by omega, by omega, by rw [app_len, item_len]; omega, pinv_two (by assumption) (by omega) (by omega) (by assumption) (by assumption)⟩
    | exact ⟨by omega, by omega, by rw [app_len, item_len]; omega, pinv_other (by assumption) (by omega) (by omega) (by assumption)⟩
  k_with "measure" => omega
  k_fill
  dsimp only [CbClaimE, CbRet]
  intros
  rename_i hret hbad
  refine wpAny_call ?_
  k_dflt cell_enter
  k_steps
  rotate_left 2
  · unfold Stop
    have e1 := is_257 v
    have e2 := is_q v
    rename (Txt.slice v none (some 3) != _) = false => f1
    rename (Txt.slice v (some 3) (some 5) != _) = false => f2
    rw [f1] at e1
    rw [f2] at e2
    have g1 : v.cps.toList.take 3 = [50, 53, 55] := by simpa using e1
    have g2 : (v.cps.toList.drop 3).take 2 = [32, 34] := by simpa using e2
    have g5 := len_ge5 g2
    have hret := hret (by simpa using g1)
    k_while_given ["resp"] (fun resp script i dirname => 5 ≤ i ∧ i ≤ (resp.length : Int) ∧ (dirname.length : Int) ≤ i ∧ PInv resp i dirname) (fun resp script i dirname => (1000001 - i).toNat) "i" "dirname"
    k_steps
    · rw [pF_of g2 (pinv_end1 (by assumption) (by omega) (by omega) (by omega) (by assumption))] at hret
      exact hret _ _ _ (by assumption) (by assumption)
    · rw [pF_of g2 (pinv_end2 (by assumption) (by omega) (by omega) (by assumption) (by assumption))] at hret
      exact hret _ _ _ (by assumption) (by assumption)
    · rw [pF_of g2 (pinv_out (by assumption) (by assumption))] at hret
      exact hret _ _ _ (by assumption) (by assumption)
  · have e1 := is_257 v
    rename (Txt.slice v none (some 3) != _) = true => f1
    rw [f1] at e1
    exact hbad (by simpa using e1.symm) _ _ _ _ _ (by assumption) (by assumption) (by assumption)
  · have e1 := is_257 v
    have e2 := is_q v
    rename (Txt.slice v none (some 3) != _) = false => f1
    rename (Txt.slice v (some 3) (some 5) != _) = true => f2
    rw [f1] at e1
    rw [f2] at e2
    have g1 : v.cps.toList.take 3 = [50, 53, 55] := by simpa using e1
    have e : pF v = PySem.Str.ofString "" := by
      unfold pF
      rw [if_neg (by simpa using e2.symm)]
      decide +kernel
    have hret := hret (by simpa using g1)
    rw [e] at hret
    exact hret _ _ _ (by assumption) (by assumption)
end Mine

end
section
open PySem PySem.W PyProof.Rows
set_option Elab.async false
set_option maxRecDepth 100000
set_option linter.unusedVariables false
namespace Mine
theorem ints11 (a0 a1 a2 a3 a4 a5 a6 a7 a8 a9 a10 : Int) (t0 t1 t2 t3 t4 t5 t6 t7 t8 t9 t10 : Tok) : IntsAre [.int a0 t0, .int a1 t1, .int a2 t2, .int a3 t3, .int a4 t4, .int a5 t5, .int a6 t6, .int a7 t7, .int a8 t8, .int a9 t9, .int a10 t10] [a0, a1, a2, a3, a4, a5, a6, a7, a8, a9, a10] :=
  .cons _ _ (.cons _ _ (.cons _ _ (.cons _ _ (.cons _ _ (.cons _ _ (.cons _ _ (.cons _ _ (.cons _ _ (.cons _ _ (.cons _ _ .nil))))))))))
noncomputable def unL : List Int := [173, 847, 6150, 6155, 6156, 6157, 8203, 8204, 8205, 8288, 65279] ++ rangeInts 65024 1 ((65040 : Int) - 65024).toNat
noncomputable def unC (k : Int) : Nat := (unL.getD (Int.fmod k 27).toNat 0).toNat
theorem unL_len : unL.length = 27 := by decide +kernel
theorem unL_bound : ∀ n : Nat, 0 ≤ unL.getD n 0 ∧ unL.getD n 0 ≤ 1114111 := by
  intro n
  have h : (unL.all fun i => decide (0 ≤ i) && decide (i ≤ 1114111)) = true := by decide +kernel
  rw [List.getD_eq_getElem?_getD]
  cases hg : unL[n]? with
  | none => exact ⟨Int.le_refl _, by decide⟩
  | some i =>
    have := List.all_eq_true.mp h i (List.mem_of_getElem? hg)
    simpa using this
local macro_rules | `(tactic| walk_at "binaryOp Add ref ref") => `(tactic| (k_here; (rename NewPlain _ _ _ _ => NP'); k_dflt (refine' add_arrays_ints (its := _) (its2 := _) ?f ?n (News.isList ?n2 ?mem) ?hb ?hi ?hc ?_ ?sz; (case f => k_asm); (case n => k_asm); (case n2 => assumption); (case mem => exact List.Mem.head _); (case hb => assumption); (case hi => exact ints11 _ _ _ _ _ _ _ _ _ _ _ _ _ _ _ _ _ _ _ _ _ _); (case hc => exact IntsAre.ofCarried (by assumption)); (case sz => decide +kernel); intro h' F' N' hi')))
local macro_rules | `(tactic| walk_at "call builtin:chr") => `(tactic| (k_here; k_dflt (refine chr_of_range (i := unL.getD _ 0) (unL_bound _).1 (unL_bound _).2 ?_)))
set_option maxHeartbeats 8000000 in
theorem unseen {w : World} {mean : ExcName → Option Value} {mg mb : Str → Option Value} {news : List (Addr × Obj)} (k : Int) (t : Tok) :
  CbClaim PySem.Challenge.rw_tr0050_03.prog w (K w.params) q01 (looseW q01 loose01) mean mg mb 151 news [] True [.int k t] (fun t => .str (Str.mk #[unC k]) t) := by
  k_fill
  dsimp only [CbClaim, CbRet, CbLists]
  intros
  rename_i hret
  refine wpAny_call ?_
  k_dflt cell_enter
  k_steps
  exact hret _ _ _ (by assumption) (by refine' cb_drop ?cbN ?cbS; (case cbN => assumption); (case cbS => kcj_all))
end Mine

end
section
open PySem PySem.W PySem.Spec PySem.Calls PyProof.Rows PyProof.Rows.LCg PyProof.Rows.LCt
set_option Elab.async false
set_option maxRecDepth 100000
set_option linter.unusedVariables false
set_option maxHeartbeats 2000000
namespace Mine
/-- a comprehension over a text with one test: a turn's end -/
noncomputable def TcEl (news : List (Addr × Obj)) (g : Option PySem.Str) (y : Value) (news' : List (Addr × Obj)) : Prop := news' = news ∧ ∃ (r : PySem.Str) (t : Tok), g = some r ∧ y = .str r t
noncomputable def TcNo (news : List (Addr × Obj)) (g : Option PySem.Str) (news' : List (Addr × Obj)) : Prop := news' = news ∧ g = none
theorem str_snoc {y : PySem.Str} {t : Tok} : ∀ {vs : List Value} {ys : List PySem.Str}, StrsAre vs ys → StrsAre (vs ++ [.str y t]) (ys ++ [y])
  | _, _, .nil => .cons _ _ .nil
  | _, _, .cons a b h => .cons a b (str_snoc h)
noncomputable def TcSrc (prog : Program) (w : World) (A : Around) (h₀ : Heap) (L : Addr) (m : PySem.Str → Option Value) (env : Env) (ct elt : Expr) (x : PySem.Str) (scope : Scope) (cl : List (PySem.Str × Addr)) (Fin : Shared → List Value → List (Addr × Obj) → Prop) (xv : Value) (s₁ : Shared) : Prop :=
  ∃ v t news, xv = .str v t ∧ A.handled = none ∧ Fr h₀ L s₁.heap m ∧ News h₀ L s₁.heap news ∧ v.cps.size ≤ sizeLine ∧
    ∀ s₂ : Shared, (∃ h, s₂ = { s₁ with heap := h }) → CompRestT prog w A h₀ L m env ct elt x scope cl s₂ (fun _ => True) (SignAt v) (Fin s₂) v.cps.size 0 [] news
section
variable {prog : Program} {w : World} {A : Around} {E : Value → Shared → Prop} {s : Shared} {h₀ : Heap} {L : Addr} {m : PySem.Str → Option Value} {env : Env}
theorem tc_comp {ct elt iter : Expr} {x : PySem.Str} {px : Pos} {scope : Scope} {cl : List (PySem.Str × Addr)} {pos : Pos} {Q : Value → Shared → Prop} (F₀ : Fr h₀ L s.heap m)
    (hclos : closureFor scope env = pure cl) (hcell : ∀ y ∈ scope.names, y.2 ≠ .cell) (hkind : scope.kind = .function)
    (hnames : ∀ y ∈ scope.names, y.2 = .local → scope.names.lookup y.1 = some .local) (hx : scope.names.lookup x = some .local)
    (h : wpAny (model prog w) A (eval iter env) (TcSrc prog w A h₀ L m env ct elt x scope cl (fun s₂ => FinE h₀ L m s₂ Q)) E s)
    (hs : ∀ x, foldedSetIterable iter env x = pure x := by intro _; rfl) :
    wpAny (model prog w) A (eval (.ListComp elt [⟨.Name x px, iter, [ct], 0⟩] scope pos) env) Q E s := by
  rw [eval_ListComp]
  refine wpAny_comprehension_free (use := none) rfl hs hclos hkind hnames (wpAny_mono h (fun xv s₁ h₁ => ?_) fun _ _ e => e)
  obtain ⟨v, t, news, rfl, hh, F, N, hsz, R⟩ := h₁
  cases ha : v.cps.all (· < 128)
  · refine wpAny_pyIter_wide ha ?_
    refine block_T (S := fun _ => True) (Walks.strWide hh _ v t) hsz (fun i h st => by obtain ⟨o, e, _⟩ := st; exact ⟨o, e⟩)
      (fun i h h' o nw st e e' _ _ _ => by obtain ⟨o', e2, r⟩ := st; rw [e] at e2; cases e2; exact ⟨_, e', r⟩) hcell hkind hx ⟨_, Heap.get?_push_size _ rfl, rfl, rfl⟩ (fun b hb => ?_)
      (F.keeps fun _ _ e => Heap.get?_push_of_some _ e) (N.grown fun _ _ e => Heap.get?_push_of_some _ e) (Nat.ne_of_lt F.ns.lt) (next_is_new F) (fun p hp => Nat.ne_of_lt (Heap.lt_size (N p hp).1)) trivial (R _ ⟨_, rfl⟩) ?_
    · rw [List.mem_singleton.mp hb]
      show s₁.heap.objs.size < (s₁.heap.push _).objs.size
      rw [Heap.size_push]; exact Nat.lt_succ_self _
    · intro D C h tk m' ys news' F' N' o1 hn hC₀ hD₀ hCL hDL hCD offC fin
      refine ⟨m', hn, fun h'' hs'' => fin D h'' tk (F'.change hs'' hCL hC₀) (fun p hp => ?_) o1⟩
      refine ⟨hs''.extBut _ _ ?_ (N' p hp).1, (N' p hp).2⟩
      rcases List.mem_cons.mp hp with rfl | hp
      · exact Ne.symm hCD
      · exact offC p hp
  · refine wpAny_pyIter_ascii ha ?_
    refine block_T (S := fun _ => True) (Walks.strAscii hh _ v t) hsz (fun i h st => by obtain ⟨o, e, _⟩ := st; exact ⟨o, e⟩)
      (fun i h h' o nw st e e' _ _ _ => by obtain ⟨o', e2, r⟩ := st; rw [e] at e2; cases e2; exact ⟨_, e', r⟩) hcell hkind hx ⟨_, Heap.get?_push_size _ rfl, rfl, rfl⟩ (fun b hb => ?_)
      (F.keeps fun _ _ e => Heap.get?_push_of_some _ e) (N.grown fun _ _ e => Heap.get?_push_of_some _ e) (Nat.ne_of_lt F.ns.lt) (next_is_new F) (fun p hp => Nat.ne_of_lt (Heap.lt_size (N p hp).1)) trivial (R _ ⟨_, rfl⟩) ?_
    · rw [List.mem_singleton.mp hb]
      show s₁.heap.objs.size < (s₁.heap.push _).objs.size
      rw [Heap.size_push]; exact Nat.lt_succ_self _
    · intro D C h tk m' ys news' F' N' o1 hn hC₀ hD₀ hCL hDL hCD offC fin
      refine ⟨m', hn, fun h'' hs'' => fin D h'' tk (F'.change hs'' hCL hC₀) (fun p hp => ?_) o1⟩
      refine ⟨hs''.extBut _ _ ?_ (N' p hp).1, (N' p hp).2⟩
      rcases List.mem_cons.mp hp with rfl | hp
      · exact Ne.symm hCD
      · exact offC p hp
theorem tc_rest {ct elt : Expr} {x : PySem.Str} {scope : Scope} {cl : List (PySem.Str × Addr)} {v : PySem.Str} {Fin : List Value → List (Addr × Obj) → Prop} {news : List (Addr × Obj)} (G : Nat → Option PySem.Str)
    (turn : ∀ c t I oI C oC D m₂ ys h tk (E' : Value → Shared → Prop), c ∈ v.cps.toList → NsObj oC m₂ → m₂ x = some (.str ⟨#[c]⟩ t) → Fr h₀ L h m → News h₀ L h ((I, oI) :: (C, oC) :: (D, lst ys) :: news) → Off3 I C D news → ((@Ne Nat I C) ∧ (@Ne Nat I D) ∧ (@Ne Nat C D)) →
      wpAny (model prog w) A (isTrue ct (compEnvC scope cl C env) (eval ct (compEnvC scope cl C env))) (fun b s' => if b = true then wpAny (model prog w) A (eval elt (compEnvC scope cl C env)) (CompEnd h₀ L m { s with heap := h, toks := tk } I oI C oC D (lst ys) (fun _ => True) (fun y news' => TcEl news (G c) y news')) E' s'
        else CompEnd h₀ L m { s with heap := h, toks := tk } I oI C oC D (lst ys) (fun _ => True) (fun _ news' => TcNo news (G c) news') Value.none s') E' { s with heap := h, toks := tk })
    (fin : ∀ ys, StrsAre ys (v.cps.toList.filterMap G) → ys.length ≤ v.cps.size → Fin ys news) : CompRestT prog w A h₀ L m env ct elt x scope cl s (fun _ => True) (SignAt v) Fin v.cps.size 0 [] news := by
  have key : ∀ (j i : Nat) (ys : List Value), i + j = v.cps.size → ys.length ≤ i → StrsAre ys ((v.cps.toList.take i).filterMap G) → CompRestT prog w A h₀ L m env ct elt x scope cl s (fun _ => True) (SignAt v) Fin j i ys news := by
    intro j
    induction j with
    | zero =>
      intro i ys hi hl hy
      have e : i = v.cps.toList.length := by rw [Array.length_toList]; omega
      subst e
      rw [List.take_length] at hy
      exact CompRestT.zero (fin ys hy (by rw [Array.length_toList] at hl; exact hl))
    | succ j ih =>
      intro i ys hi hl hy
      refine CompRestT.succ ?_
      intro v' I oI C oC D m₂ h tk E' hv hC hx F N off ne
      obtain ⟨c, t, hk, hv'⟩ := hv
      rw [hv'] at hx
      have hk' : v.cps.toList[i]? = some c := by rw [Array.getElem?_toList]; exact hk
      have hs : (v.cps.toList.take (i + 1)).filterMap G = (v.cps.toList.take i).filterMap G ++ (match G c with | some r => [r] | none => []) := by
        rw [List.take_add_one, hk']
        simp only [Option.toList_some, List.filterMap_append]
        congr 1
        cases hg : G c with
        | none => simp [hg]
        | some r => simp [hg]
      refine wpAny_mono (turn c t I oI C oC D m₂ ys h tk E' (List.mem_of_getElem? hk') hC hx F N off ne) (fun b s₂ hq => ?_) fun _ _ e => e
      cases b with
      | true =>
        simp only [if_true] at hq ⊢
        refine wpAny_mono hq (fun y s₃ hr => ?_) fun _ _ e => e
        obtain ⟨h', tk', nw, e, F', N', off', hS, hn, r, t', hg, hy'⟩ := hr
        rw [hn] at N' off'
        refine ⟨h', tk', news, e, F', N', off', hS, ?_⟩
        rw [hy']
        refine ih (i + 1) _ (by omega) (by rw [List.length_append]; simp; omega) ?_
        rw [hs, hg]
        exact str_snoc hy
      | false =>
        simp only [Bool.false_eq_true, if_false] at hq ⊢
        obtain ⟨h', tk', nw, e, F', N', off', hS, hn, hg⟩ := hq
        rw [hn] at N' off'
        refine ⟨h', tk', news, e, F', N', off', hS, ih (i + 1) _ (by omega) (by omega) ?_⟩
        rw [hs, hg, List.append_nil]
        exact hy
  exact key v.cps.size 0 [] (by omega) (Nat.le_refl _) (by simpa using StrsAre.nil)
end
end Mine

end
section
open PySem PySem.W PyProof.Rows
set_option Elab.async false
set_option maxRecDepth 100000
set_option linter.unusedVariables false
namespace Mine
/-- a call that gives back a new tuple of two texts -/
noncomputable abbrev CbClaimT (prog : Program) (w : World) (K : Frag) (p : Program) (loose : List Str) (mean : ExcName → Option Value) (mg mb : Str → Option Value) (f : Addr) (news : List (Addr × Obj)) (pre : Prop) (vs : List Value) (a b : Str) : Prop :=
  ∀ (dp un : Nat) (gd : Option (List Code)) (cn : Str) (cs : Scope) (ad : Addr) (ccd : Value) (cl : List (Str × Addr)) (outer : List Env) (A₀ : Around) (base h₀ : Heap) (L : Addr) (m : Str → Option Value) (s : Shared) (Q E : Value → Shared → Prop),
    Below A₀ base outer h₀ → Fr h₀ L s.heap m → K.In h₀ → News h₀ L s.heap news → Top p loose mean mg mb h₀ → cs.kind = .function →
    pre → dp + 1 < recursionLimit → un + 8 < cLine →
    (∀ (T : Addr) (h' : Heap) (tk : Nat) (t u : Tok), Fr h₀ L h' m → News h₀ L h' ((T, ⟨.type "tuple", none, .seq #[.str a t, .str b u] 0, #[]⟩) :: news) → Q (.ref T) { s with heap := h', toks := tk }) →
      wpAny (model prog w) (ktrTop dp un gd cn cs L ad ccd cl outer) (call (.ref f) vs) Q E s
noncomputable def sg2 : List (Str × Str) := [(S "ﬀ", S "ff"), (S "ß", S "ss"), (S "₨", S "rs"), (S "™", S "tm"), (S "㏎", S "km"), (S "ﬆ", S "st")]
noncomputable def sg3 : List (Str × Str) := [(S "ﬃ", S "ffi"), (S "℡", S "tel"), (S "㍱", S "hpa"), (S "㎔", S "thz"), (S "㏇", S "co."), (S "㏙", S "ppm")]
noncomputable def sF2 (k : Int) : Str × Str := sg2.getD (Int.fmod k 6).toNat (S "", S "")
noncomputable def sF3 (k : Int) : Str × Str := sg3.getD (Int.fmod k 6).toNat (S "", S "")
theorem fmod6 (k : Int) : Int.fmod k 6 = 0 ∨ Int.fmod k 6 = 1 ∨ Int.fmod k 6 = 2 ∨ Int.fmod k 6 = 3 ∨ Int.fmod k 6 = 4 ∨ Int.fmod k 6 = 5 := by
  have h1 := Int.fmod_nonneg_of_pos k (show (0 : Int) < 6 by decide)
  have h2 := Int.fmod_lt_of_pos k (show (0 : Int) < 6 by decide)
  omega
set_option maxHeartbeats 8000000 in
theorem two {w : World} {mean : ExcName → Option Value} {mg mb : Str → Option Value} {news : List (Addr × Obj)} (k : Int) (t : Tok) :
  CbClaimT PySem.Challenge.rw_tr0050_03.prog w (K w.params) q01 (looseW q01 loose01) mean mg mb 158 news True [.int k t] (sF2 k).1 (sF2 k).2 := by
  k_fill
  dsimp only [CbClaimT]
  intros
  rename_i hret
  refine wpAny_call ?_
  k_dflt cell_enter
  k_steps
  all_goals
    rcases fmod6 k with h | h | h | h | h | h <;>
    (rw [h]
     unfold sF2 at hret
     rw [h] at hret
     k_steps
     first
       | exact hret _ _ _ _ _ (by assumption) (by refine' cb_drop ?cbN ?cbS; (case cbN => assumption); (case cbS => kcj_all))
       | (fail "open"))
set_option maxHeartbeats 8000000 in
theorem three {w : World} {mean : ExcName → Option Value} {mg mb : Str → Option Value} {news : List (Addr × Obj)} (k : Int) (t : Tok) :
  CbClaimT PySem.Challenge.rw_tr0050_03.prog w (K w.params) q01 (looseW q01 loose01) mean mg mb 165 news True [.int k t] (sF3 k).1 (sF3 k).2 := by
  k_fill
  dsimp only [CbClaimT]
  intros
  rename_i hret
  refine wpAny_call ?_
  k_dflt cell_enter
  k_steps
  all_goals
    rcases fmod6 k with h | h | h | h | h | h <;>
    (rw [h]
     unfold sF3 at hret
     rw [h] at hret
     k_steps
     first
       | exact hret _ _ _ _ _ (by assumption) (by refine' cb_drop ?cbN ?cbS; (case cbN => assumption); (case cbS => kcj_all))
       | (fail "open"))
end Mine

end
section
open PySem PySem.W PyProof.Rows
set_option Elab.async false
set_option maxRecDepth 100000
set_option linter.unusedVariables false
namespace Mine
/-- a new tuple of two texts -/
noncomputable abbrev tup2 (a b : Str) (t u : Tok) : Obj := ⟨.type "tuple", none, .seq #[.str a t, .str b u] 0, #[]⟩
local macro_rules | `(tactic| walk_at "call ref") => `(tactic| (k_here; k_dflt ((refine two _ _ _ _ _ _ _ _ _ _ _ _ _ _ _ _ _ _ _ (by k_asm) (by k_asm) (by k_asm) (by k_asm) (by k_asm) (by first | exact rfl | assumption) (by trivial) (by ktr_room) (by ktr_units) ?_); intro T9 h9 tk9 t9 u9 F9 N9; (try dsimp only))))
local macro_rules | `(tactic| walk_at "call ref") => `(tactic| (k_here; k_dflt ((refine three _ _ _ _ _ _ _ _ _ _ _ _ _ _ _ _ _ _ _ (by k_asm) (by k_asm) (by k_asm) (by k_asm) (by k_asm) (by first | exact rfl | assumption) (by trivial) (by ktr_room) (by ktr_units) ?_); intro T9 h9 tk9 t9 u9 F9 N9; (try dsimp only))))
set_option maxHeartbeats 4000000 in
theorem signs0 {w : World} {mean : ExcName → Option Value} {mg mb : Str → Option Value} {news : List (Addr × Obj)} (k : Int) (t t' : Tok) :
  ∀ (dp un : Nat) (gd : Option (List Code)) (cn : Str) (cs : Scope) (ad : Addr) (ccd : Value) (cl : List (Str × Addr)) (outer : List Env) (A₀ : Around) (base h₀ : Heap) (L : Addr) (m : Str → Option Value) (s : Shared) (Q E : Value → Shared → Prop),
    Below A₀ base outer h₀ → Fr h₀ L s.heap m → (K w.params).In h₀ → News h₀ L s.heap news → Top q01 (looseW q01 loose01) mean mg mb h₀ → cs.kind = .function →
    True → dp + 2 < recursionLimit → un + 16 < cLine →
    (∀ (B T0 : Addr) (h' : Heap) (tk : Nat) (t0 u0 : Tok), Fr h₀ L h' m → News h₀ L h' ((B, listOf #[.ref T0] 0) :: (T0, tup2 (sF2 k).1 (sF2 k).2 t0 u0) :: news) → Q (.ref B) { s with heap := h', toks := tk }) →
      wpAny (model PySem.Challenge.rw_tr0050_03.prog w) (ktrTop dp un gd cn cs L ad ccd cl outer) (call (.ref 172) [.int 0 t, .int k t']) Q E s := by
  k_fill
  intros
  rename_i hret
  refine wpAny_call ?_
  k_dflt cell_enter
  k_steps
  all_goals (first | exact hret _ _ _ _ _ _ (by assumption) (by refine' cb_drop ?cbN ?cbS; (case cbN => assumption); (case cbS => kcj_all)) | (fail "open"))
set_option maxHeartbeats 4000000 in
theorem signs1 {w : World} {mean : ExcName → Option Value} {mg mb : Str → Option Value} {news : List (Addr × Obj)} (k : Int) (t t' : Tok) :
  ∀ (dp un : Nat) (gd : Option (List Code)) (cn : Str) (cs : Scope) (ad : Addr) (ccd : Value) (cl : List (Str × Addr)) (outer : List Env) (A₀ : Around) (base h₀ : Heap) (L : Addr) (m : Str → Option Value) (s : Shared) (Q E : Value → Shared → Prop),
    Below A₀ base outer h₀ → Fr h₀ L s.heap m → (K w.params).In h₀ → News h₀ L s.heap news → Top q01 (looseW q01 loose01) mean mg mb h₀ → cs.kind = .function →
    True → dp + 2 < recursionLimit → un + 16 < cLine →
    (∀ (B T0 : Addr) (h' : Heap) (tk : Nat) (t0 u0 : Tok), Fr h₀ L h' m → News h₀ L h' ((B, listOf #[.ref T0] 0) :: (T0, tup2 (sF3 k).1 (sF3 k).2 t0 u0) :: news) → Q (.ref B) { s with heap := h', toks := tk }) →
      wpAny (model PySem.Challenge.rw_tr0050_03.prog w) (ktrTop dp un gd cn cs L ad ccd cl outer) (call (.ref 172) [.int 1 t, .int k t']) Q E s := by
  k_fill
  intros
  rename_i hret
  refine wpAny_call ?_
  k_dflt cell_enter
  k_steps
  all_goals (first | exact hret _ _ _ _ _ _ (by assumption) (by refine' cb_drop ?cbN ?cbS; (case cbN => assumption); (case cbS => kcj_all)) | (fail "open"))
set_option maxHeartbeats 4000000 in
theorem signs2 {w : World} {mean : ExcName → Option Value} {mg mb : Str → Option Value} {news : List (Addr × Obj)} (k : Int) (t t' : Tok) :
  ∀ (dp un : Nat) (gd : Option (List Code)) (cn : Str) (cs : Scope) (ad : Addr) (ccd : Value) (cl : List (Str × Addr)) (outer : List Env) (A₀ : Around) (base h₀ : Heap) (L : Addr) (m : Str → Option Value) (s : Shared) (Q E : Value → Shared → Prop),
    Below A₀ base outer h₀ → Fr h₀ L s.heap m → (K w.params).In h₀ → News h₀ L s.heap news → Top q01 (looseW q01 loose01) mean mg mb h₀ → cs.kind = .function →
    True → dp + 2 < recursionLimit → un + 16 < cLine →
    (∀ (B T0 T1 : Addr) (h' : Heap) (tk : Nat) (t0 u0 t1 u1 : Tok), Fr h₀ L h' m → News h₀ L h' ((B, listOf #[.ref T0, .ref T1] 0) :: (T0, tup2 (sF3 k).1 (sF3 k).2 t0 u0) :: (T1, tup2 (sF2 (k + 1)).1 (sF2 (k + 1)).2 t1 u1) :: news) → Q (.ref B) { s with heap := h', toks := tk }) →
      wpAny (model PySem.Challenge.rw_tr0050_03.prog w) (ktrTop dp un gd cn cs L ad ccd cl outer) (call (.ref 172) [.int 2 t, .int k t']) Q E s := by
  k_fill
  intros
  rename_i hret
  refine wpAny_call ?_
  k_dflt cell_enter
  k_steps
  all_goals (first | exact hret _ _ _ _ _ _ _ _ _ (by assumption) (by refine' cb_drop ?cbN ?cbS; (case cbN => assumption); (case cbS => kcj_all)) | (fail "open"))
end Mine

end
section
open PySem PySem.W PyProof.Rows
set_option Elab.async false
set_option maxRecDepth 100000
set_option linter.unusedVariables false
namespace Mine
noncomputable def marks (n : Nat) : Str := ⟨(List.replicate n 34).toArray⟩
theorem marks_len (n : Nat) : (marks n).length = n := by unfold marks; rw [str_len, List.length_replicate]
theorem marks_list (n : Nat) : (marks n).cps.toList = List.replicate n 34 := rfl
theorem len257 : (Str.ofString "257 \"").length = 5 := by kernel_rfl
theorem lenx : (Str.ofString "x").length = 1 := by kernel_rfl
theorem listx : (Str.ofString "x").cps.toList = [120] := by kernel_rfl
theorem list257 : (Str.ofString "257 \"").cps.toList = [50, 53, 55, 32, 34] := by kernel_rfl
theorem take257 (a b : Str) : (Str.ofString "257 \"" ++ a ++ b).cps.toList.take 3 = [50, 53, 55] := by
  rw [str_app, str_app, list257]; rfl
theorem str_ext2 {a b : Str} (h : a.cps.toList = b.cps.toList) : a = b := by
  obtain ⟨⟨a⟩⟩ := a
  obtain ⟨⟨b⟩⟩ := b
  have h : a = b := h
  rw [h]
theorem unq_even : ∀ a : Nat, unq false (List.replicate (2 * a) 34 ++ [120]) = List.replicate a 34 ++ [120]
  | 0 => by simp [unq]
  | a + 1 => by
    rw [show 2 * (a + 1) = 2 * a + 1 + 1 by omega, List.replicate_succ, List.replicate_succ, List.replicate_succ]
    simp [unq, unq_even a]
theorem unq_odd : ∀ a : Nat, unq false (List.replicate (2 * a + 1) 34 ++ [120]) = List.replicate a 34
  | 0 => by simp [unq]
  | a + 1 => by
    rw [show 2 * (a + 1) + 1 = (2 * a + 1) + 1 + 1 by omega, List.replicate_succ (n := (2 * a + 1) + 1), List.replicate_succ (n := 2 * a + 1), List.cons_append, List.cons_append, unq_f, if_pos rfl, unq_t, if_pos rfl, unq_odd a, List.replicate_succ]
theorem pf_list (n : Nat) : (pF (Str.ofString "257 \"" ++ marks n ++ Str.ofString "x")) = ⟨(unq false (List.replicate n 34 ++ [120])).toArray⟩ := by
  have h : (Str.ofString "257 \"" ++ marks n ++ Str.ofString "x").cps.toList = [50, 53, 55, 32, 34] ++ (List.replicate n 34 ++ [120]) := by
    rw [str_app, str_app, list257, listx, marks_list, List.append_assoc]
  unfold pF
  rw [h]
  rfl
theorem pf_even {n : Nat} (h : n % 2 = 0) : (pF (Str.ofString "257 \"" ++ marks n ++ Str.ofString "x")) = marks (n / 2) ++ Str.ofString "x" := by
  rw [pf_list, show n = 2 * (n / 2) by omega, unq_even]
  apply str_ext2
  rw [str_app, listx, marks_list, show 2 * (n / 2) / 2 = n / 2 by omega]
theorem pf_odd {n : Nat} (h : ¬ n % 2 = 0) : (pF (Str.ofString "257 \"" ++ marks n ++ Str.ofString "x")) = marks (n / 2) := by
  rw [pf_list, show n = 2 * (n / 2) + 1 by omega, unq_odd]
  apply str_ext2
  rw [marks_list, show (2 * (n / 2) + 1) / 2 = n / 2 by omega]
theorem last_x (a : Nat) : Txt.slice (marks a ++ Str.ofString "x") (some (-1)) none = Str.ofString "x" := by
  have hl : (marks a ++ Str.ofString "x").length = a + 1 := by rw [app_len, marks_len, lenx]
  rw [slice_gen _ _ _ a (a + 1) (by simp only [hl]; omega) (by simp only [hl])]
  apply str_ext2
  rw [str_app, marks_list, listx]
  simp
theorem init_x (a : Nat) : Txt.slice (marks a ++ Str.ofString "x") none (some (-1)) = marks a := by
  have hl : (marks a ++ Str.ofString "x").length = a + 1 := by rw [app_len, marks_len, lenx]
  rw [slice_gen _ _ _ 0 a (by simp) (by simp only [hl]; omega)]
  apply str_ext2
  rw [str_app, marks_list, listx]
  simp
theorem last_m (a : Nat) : (Txt.slice (marks a) (some (-1)) none == Str.ofString "x") = false := by
  cases e : (Txt.slice (marks a) (some (-1)) none == Str.ofString "x") with
  | false => rfl
  | true =>
    exfalso
    have h : Txt.slice (marks a) (some (-1)) none = Str.ofString "x" := by simpa using e
    have hl : (marks a).length = a := marks_len a
    rw [slice_gen _ _ _ (a - 1) a (by simp only [hl]; omega) (by simp only [hl])] at h
    have h2 := congrArg (fun s : Str => s.cps.toList) h
    simp only [marks_list, listx] at h2
    have h3 : (120 : Nat) ∈ (List.replicate a 34).drop (a - 1) := by
      have : (120 : Nat) ∈ ((List.replicate a 34).drop (a - 1)).take (a - (a - 1)) := by rw [h2]; simp
      exact List.mem_of_mem_take this
    have := List.mem_of_mem_drop h3
    simp at this
end Mine

end
section
open PySem PySem.W PyProof.Rows
set_option Elab.async false
set_option maxRecDepth 100000
set_option linter.unusedVariables false
namespace Mine
theorem crlf_plain : ∀ (l : List Nat), (∀ c ∈ l, c ≠ 10 ∧ c ≠ 13) → crlf false l = l
  | [], _ => rfl
  | c :: r, h => by
    have hc := h c List.mem_cons_self
    unfold crlf
    rw [if_neg hc.1, if_neg hc.2, crlf_plain r (fun d hd => h d (List.mem_cons_of_mem _ hd))]
theorem dots_plain : ∀ (l : List Nat), (∀ c ∈ l, c ≠ 10 ∧ c ≠ 13) → dots false l = l
  | [], _ => rfl
  | c :: r, h => by
    have hc := h c List.mem_cons_self
    unfold dots
    have e : (c == 10) = false := by simpa using hc.1
    rw [e, dots_plain r (fun d hd => h d (List.mem_cons_of_mem _ hd))]
    simp
theorem quote_dot (r : List Nat) (h : ∀ c ∈ r, c ≠ 10 ∧ c ≠ 13) : quoteS ⟨(46 :: r).toArray⟩ = ⟨(46 :: 46 :: r).toArray⟩ := by
  unfold quoteS
  have h' : ∀ c ∈ 46 :: r, c ≠ 10 ∧ c ≠ 13 := by
    intro c hc
    rcases List.mem_cons.mp hc with rfl | hc
    · decide
    · exact h c hc
  show (⟨(dots true (crlf false (46 :: r))).toArray⟩ : Str) = _
  rw [crlf_plain _ h']
  unfold dots
  rw [show ((46 : Nat) == 10) = false from rfl, dots_plain r h]
  rfl
noncomputable def F0 (k : Int) : List (Str × Str) := [sF2 k]
noncomputable def F1 (k : Int) : List (Str × Str) := [sF3 k]
noncomputable def F2 (k : Int) : List (Str × Str) := [sF3 k, sF2 (k + 1)]
noncomputable def addS : List (Str × Str) → Str → Str
  | [], a => a
  | p :: r, a => addS r (a ++ p.1)
noncomputable def addD : List (Str × Str) → Str → Str
  | [], a => a
  | p :: r, a => addD r (a ++ p.2)
noncomputable def dotsN (j : Nat) : Str := ⟨(List.replicate j 46).toArray⟩
noncomputable def spG (F : Int → List (Str × Str)) (sd : Int) : Nat → Str
  | 0 => S "."
  | k + 1 => if Int.fmod (k : Int) 3 = 2 then addS (F (sd + k)) (spG F sd k) ++ ⟨#[unC (sd + k)]⟩ else addS (F (sd + k)) (spG F sd k)
noncomputable def duG (F : Int → List (Str × Str)) (j : Nat) (sd : Int) : Nat → Str
  | 0 => dotsN j
  | k + 1 => addD (F (sd + k)) (duG F j sd k)
noncomputable def tcG (c : Nat) : Option Str := if isB1 c = true then none else some (mapF ⟨#[c]⟩)
noncomputable def okC (c : Nat) : Bool := c != 10 && c != 13 && decide ((Txt.lower ⟨#[c]⟩).length ≤ 1000)
structure OkF (F : Int → List (Str × Str)) (f : Nat) : Prop where
  ok : ∀ k, ∀ p ∈ F k, p.1.cps.toList.all okC = true ∧ p.1.cps.toList.filterMap tcG = [p.2] ∧ p.1.length = 1
  len : ∀ k, ((F k).map fun p => p.2.length).sum = f
  cnt : ∀ k, (F k).length ≤ 2
theorem sF2_ok (k : Int) : ((sF2 k).1.cps.toList.all okC = true ∧ (sF2 k).1.cps.toList.filterMap tcG = [(sF2 k).2] ∧ (sF2 k).1.length = 1) ∧ (sF2 k).2.length = 2 := by
  unfold sF2
  rcases fmod6 k with h | h | h | h | h | h <;> rw [h] <;> decide +kernel
theorem sF3_ok (k : Int) : ((sF3 k).1.cps.toList.all okC = true ∧ (sF3 k).1.cps.toList.filterMap tcG = [(sF3 k).2] ∧ (sF3 k).1.length = 1) ∧ (sF3 k).2.length = 3 := by
  unfold sF3
  rcases fmod6 k with h | h | h | h | h | h <;> rw [h] <;> decide +kernel
theorem mem1 {α : Type} {P : α → Prop} {a : α} (h : P a) : ∀ p ∈ [a], P p := fun p hp => by
  rcases List.mem_cons.mp hp with rfl | hp
  · exact h
  · exact absurd hp (List.not_mem_nil)
theorem mem2 {α : Type} {P : α → Prop} {a b : α} (h : P a) (h2 : P b) : ∀ p ∈ [a, b], P p := fun p hp => by
  rcases List.mem_cons.mp hp with rfl | hp
  · exact h
  · exact mem1 h2 p hp
theorem okF0 : OkF F0 2 := ⟨fun k => mem1 (sF2_ok k).1, fun k => (by show (sF2 k).2.length + 0 = 2; rw [(sF2_ok k).2]), fun _ => (by exact Nat.le_of_ble_eq_true rfl)⟩
theorem okF1 : OkF F1 3 := ⟨fun k => mem1 (sF3_ok k).1, fun k => (by show (sF3 k).2.length + 0 = 3; rw [(sF3_ok k).2]), fun _ => (by exact Nat.le_of_ble_eq_true rfl)⟩
theorem okF2 : OkF F2 5 := ⟨fun k => mem2 (sF3_ok k).1 (sF2_ok (k + 1)).1, fun k => (by show (sF3 k).2.length + ((sF2 (k + 1)).2.length + 0) = 5; rw [(sF3_ok k).2, (sF2_ok (k + 1)).2]), fun _ => (by exact Nat.le_of_ble_eq_true rfl)⟩
theorem addS_list : ∀ (l : List (Str × Str)) (a : Str), (addS l a).cps.toList = a.cps.toList ++ l.flatMap fun p => p.1.cps.toList
  | [], a => by simp [addS]
  | p :: r, a => by rw [addS, addS_list r, str_app]; simp
theorem addD_list : ∀ (l : List (Str × Str)) (a : Str), (addD l a).cps.toList = a.cps.toList ++ l.flatMap fun p => p.2.cps.toList
  | [], a => by simp [addD]
  | p :: r, a => by rw [addD, addD_list r, str_app]; simp
theorem addS_len : ∀ (l : List (Str × Str)) (a : Str), (addS l a).length = a.length + (l.map fun p => p.1.length).sum
  | [], a => by simp [addS]
  | p :: r, a => by rw [addS, addS_len r, app_len]; simp; omega
theorem addD_len : ∀ (l : List (Str × Str)) (a : Str), (addD l a).length = a.length + (l.map fun p => p.2.length).sum
  | [], a => by simp [addD]
  | p :: r, a => by rw [addD, addD_len r, app_len]; simp; omega
theorem unC_ok (k : Int) : okC (unC k) = true ∧ tcG (unC k) = none := by
  have h : unL.all (fun i => okC i.toNat && decide (tcG i.toNat = none)) = true := by decide +kernel
  unfold unC
  have h1 := Int.fmod_nonneg_of_pos k (show (0 : Int) < 27 by decide)
  have h2 := Int.fmod_lt_of_pos k (show (0 : Int) < 27 by decide)
  have hl := unL_len
  rw [List.getD_eq_getElem?_getD, List.getElem?_eq_getElem (by omega)]
  have := List.all_eq_true.mp h _ (List.getElem_mem (h := by omega) : unL[(Int.fmod k 27).toNat]'(by omega) ∈ unL)
  simpa using this
theorem tc_dot : tcG 46 = some (S ".") := by decide +kernel
theorem okC_dot : okC 46 = true := by decide +kernel
theorem OkF.all {F : Int → List (Str × Str)} {f : Nat} (o : OkF F f) (k : Int) : ((F k).flatMap fun p => p.1.cps.toList).all okC = true := by
  rw [List.all_eq_true]
  intro c hc
  obtain ⟨p, hp, hc⟩ := List.mem_flatMap.mp hc
  exact List.all_eq_true.mp (o.ok k p hp).1 c hc
theorem fm_of : ∀ (l : List (Str × Str)), (∀ p ∈ l, p.1.cps.toList.filterMap tcG = [p.2]) → (l.flatMap fun p => p.1.cps.toList).filterMap tcG = l.map (·.2)
  | [], _ => rfl
  | p :: r, h => by
    rw [List.flatMap_cons, List.filterMap_append, h p List.mem_cons_self, fm_of r fun q hq => h q (List.mem_cons_of_mem _ hq)]; rfl
theorem OkF.sum1 {F : Int → List (Str × Str)} {f : Nat} (o : OkF F f) (k : Int) : ((F k).map fun p => p.1.length).sum ≤ 2 := by
  have h : ∀ l : List (Str × Str), (∀ p ∈ l, p.1.length = 1) → (l.map fun p => p.1.length).sum = l.length := by
    intro l
    induction l with
    | nil => intro _; rfl
    | cons p r ih => intro h; rw [List.map_cons, List.sum_cons, ih fun q hq => h q (List.mem_cons_of_mem _ hq), h p List.mem_cons_self, List.length_cons]; omega
  rw [h _ fun p hp => (o.ok k p hp).2.2]
  exact o.cnt k
theorem sp_ok {F : Int → List (Str × Str)} {f : Nat} (o : OkF F f) (sd : Int) : ∀ n : Nat, ∃ r, (spG F sd n).cps.toList = 46 :: r ∧ r.all okC = true
  | 0 => ⟨[], by show (S ".").cps.toList = [46]; decide +kernel, rfl⟩
  | n + 1 => by
    obtain ⟨r, h1, h2⟩ := sp_ok o sd n
    have h3 := o.all (sd + n)
    have h4 := (unC_ok (sd + n)).1
    unfold spG
    split
    · refine ⟨r ++ ((F (sd + n)).flatMap fun p => p.1.cps.toList) ++ [unC (sd + n)], ?_, ?_⟩
      · rw [str_app, addS_list, h1]; simp
      · rw [List.all_append, List.all_append, h2, h3]; simp [h4]
    · refine ⟨r ++ ((F (sd + n)).flatMap fun p => p.1.cps.toList), ?_, ?_⟩
      · rw [addS_list, h1]; simp
      · rw [List.all_append, h2, h3]; rfl
noncomputable def folds (F : Int → List (Str × Str)) (sd : Int) : Nat → List Str
  | 0 => []
  | n + 1 => folds F sd n ++ (F (sd + n)).map (·.2)
theorem sp_prep {F : Int → List (Str × Str)} {f : Nat} (o : OkF F f) (sd : Int) : ∀ n : Nat, (spG F sd n).cps.toList.filterMap tcG = S "." :: folds F sd n
  | 0 => by show (S ".").cps.toList.filterMap tcG = [S "."]; decide +kernel
  | n + 1 => by
    have ih := sp_prep o sd n
    have h3 := fm_of (F (sd + n)) fun p hp => (o.ok _ p hp).2.1
    have h4 := (unC_ok (sd + n)).2
    unfold spG folds
    split
    · rw [str_app, addS_list, List.filterMap_append, List.filterMap_append, ih, h3]
      simp [h4]
    · rw [addS_list, List.filterMap_append, ih, h3]
      simp
noncomputable def dt (j : Nat) (s : Str) : Str := ⟨(List.replicate j 46 ++ s.cps.toList).toArray⟩
theorem dt_zero (s : Str) : dt 0 s = s := rfl
theorem ok_plain {r : List Nat} (h : r.all okC = true) : ∀ c ∈ r, c ≠ 10 ∧ c ≠ 13 := by
  intro c hc
  have := List.all_eq_true.mp h c hc
  unfold okC at this
  simp at this
  exact ⟨this.1.1, this.1.2⟩
theorem dt_ok {F : Int → List (Str × Str)} {f : Nat} (o : OkF F f) (j : Nat) (sd : Int) (n : Nat) : ∃ r, (dt j (spG F sd n)).cps.toList = 46 :: r ∧ r.all okC = true := by
  obtain ⟨r, h1, h2⟩ := sp_ok o sd n
  cases j with
  | zero => exact ⟨r, h1, h2⟩
  | succ j =>
    refine ⟨List.replicate j 46 ++ 46 :: r, ?_, ?_⟩
    · show List.replicate (j + 1) 46 ++ (spG F sd n).cps.toList = _
      rw [h1, List.replicate_succ]; rfl
    · rw [List.all_append, List.all_cons, h2, okC_dot]
      have : (List.replicate j 46).all okC = true := by
        rw [List.all_eq_true]
        intro c hc
        rw [(List.mem_replicate.mp hc).2]; exact okC_dot
      rw [this]; rfl
theorem quote_dt {F : Int → List (Str × Str)} {f : Nat} (o : OkF F f) (j : Nat) (sd : Int) (n : Nat) : quoteS (dt j (spG F sd n)) = dt (j + 1) (spG F sd n) := by
  obtain ⟨r, h1, h2⟩ := dt_ok o j sd n
  have e : dt j (spG F sd n) = ⟨(46 :: r).toArray⟩ := str_ext2 h1
  rw [e, quote_dot r (ok_plain h2)]
  apply str_ext2
  show 46 :: 46 :: r = List.replicate (j + 1) 46 ++ (spG F sd n).cps.toList
  rw [List.replicate_succ, List.cons_append]
  exact congrArg (46 :: ·) h1.symm
theorem dt_prep {F : Int → List (Str × Str)} {f : Nat} (o : OkF F f) (j : Nat) (sd : Int) (n : Nat) : (dt j (spG F sd n)).cps.toList.filterMap tcG = List.replicate j (S ".") ++ (S "." :: folds F sd n) := by
  show (List.replicate j 46 ++ (spG F sd n).cps.toList).filterMap tcG = _
  rw [List.filterMap_append, sp_prep o]
  congr 1
  induction j with
  | zero => rfl
  | succ j ih => rw [List.replicate_succ, List.filterMap_cons, tc_dot, List.replicate_succ, ih]
theorem join_list0 : ∀ (ys : List Str), (Str.join (S "") ys).cps.toList = ys.flatMap fun y => y.cps.toList
  | [] => rfl
  | [y] => by simp [Str.join]
  | y :: z :: r => by
    have h : Str.join (S "") (y :: z :: r) = y ++ S "" ++ Str.join (S "") (z :: r) := rfl
    rw [h, str_app, str_app, join_list0 (z :: r), show (S "").cps.toList = [] from by decide +kernel]
    simp
theorem du_list {F : Int → List (Str × Str)} (j : Nat) (sd : Int) : ∀ n : Nat, (duG F j sd n).cps.toList = List.replicate j 46 ++ (folds F sd n).flatMap fun y => y.cps.toList
  | 0 => by
    show List.replicate j 46 = List.replicate j 46 ++ []
    rw [List.append_nil]
  | n + 1 => by
    unfold duG folds
    rw [addD_list, du_list j sd n, List.flatMap_append, List.append_assoc]
    congr 2
    induction F (sd + n) with
    | nil => rfl
    | cons p r ih => rw [List.flatMap_cons, List.map_cons, List.flatMap_cons, ih]
theorem du_len {F : Int → List (Str × Str)} {f : Nat} (o : OkF F f) (j : Nat) (sd : Int) : ∀ n : Nat, (duG F j sd n).length = j + f * n
  | 0 => by
    rw [← len_toList, du_list]; simp [folds]
  | n + 1 => by
    unfold duG
    rw [addD_len, du_len o j sd n, o.len, Nat.mul_succ]; omega
theorem sp_len {F : Int → List (Str × Str)} {f : Nat} (o : OkF F f) (sd : Int) : ∀ n : Nat, (spG F sd n).length ≤ 1 + 3 * n
  | 0 => by show (S ".").length ≤ 1; decide +kernel
  | n + 1 => by
    have h := sp_len o sd n
    have h2 := o.sum1 (sd + n)
    unfold spG
    split
    · rw [app_len, addS_len]
      have : (⟨#[unC (sd + n)]⟩ : Str).length = 1 := rfl
      omega
    · rw [addS_len]; omega
theorem prep_due {F : Int → List (Str × Str)} {f : Nat} (o : OkF F f) (j : Nat) (sd : Int) (n : Nat) : Str.join (S "") ((dt j (spG F sd n)).cps.toList.filterMap tcG) = duG F (j + 1) sd n := by
  apply str_ext2
  rw [dt_prep o, join_list0, du_list, List.flatMap_append, List.flatMap_cons]
  have h : ∀ j : Nat, (List.replicate j (S ".")).flatMap (fun y => y.cps.toList) = List.replicate j 46 := by
    intro j
    induction j with
    | zero => rfl
    | succ j ih => rw [List.replicate_succ, List.flatMap_cons, ih, show (S ".").cps.toList = [46] from by decide +kernel, List.replicate_succ]; rfl
  rw [h, show (S ".").cps.toList = [46] from by decide +kernel, List.replicate_succ']
  simp
theorem low_ok {F : Int → List (Str × Str)} {f : Nat} (o : OkF F f) {j : Nat} {sd : Int} {n c : Nat} (h : c ∈ (dt j (spG F sd n)).cps.toList) : (⟨#[c]⟩ : Str).length = 1 ∧ (Txt.lower ⟨#[c]⟩).length ≤ 1000 := by
  obtain ⟨r, h1, h2⟩ := dt_ok o j sd n
  have h3 : okC c = true := by
    rw [h1] at h
    rcases List.mem_cons.mp h with rfl | h
    · exact okC_dot
    · exact List.all_eq_true.mp h2 c h
  refine ⟨rfl, ?_⟩
  unfold okC at h3
  simp at h3
  exact h3.2
theorem flat_len (ys : List Str) : (ys.flatMap fun y => y.cps.toList).length = (ys.map (·.length)).sum := by
  induction ys with
  | nil => rfl
  | cons y ys ih => rw [List.flatMap_cons, List.length_append, ih, len_toList]; simp
theorem prep_sum {F : Int → List (Str × Str)} {f : Nat} (o : OkF F f) (j : Nat) (sd : Int) (n : Nat) (hn : j + f * n ≤ 100000) :
    ((((dt j (spG F sd n)).cps.toList.filterMap tcG).map (·.length)).sum + ((dt j (spG F sd n)).cps.toList.filterMap tcG).length * (Str.ofString "").length ≤ 16777216) := by
  have h := congrArg (fun s : Str => s.cps.toList.length) (prep_due o j sd n)
  simp only [join_list0, flat_len] at h
  rw [len_toList, du_len o] at h
  rw [h, show (Str.ofString "").length = 0 from by decide +kernel]
  omega
theorem dt_len (j : Nat) (s : Str) : (dt j s).length = j + s.length := by
  rw [← len_toList]
  show (List.replicate j 46 ++ s.cps.toList).length = _
  rw [List.length_append, List.length_replicate, len_toList]
theorem marks_add (a b : Nat) : marks a ++ marks b = marks (a + b) := by
  apply str_ext2
  rw [str_app, marks_list, marks_list, marks_list, List.replicate_append_replicate]
noncomputable def gN (o : Nat) (n : Nat) : Nat := if o = 0 then 2 * n else if o = 1 then (1 + 3 * n) / 2 else ((3 + 5 * n) / 2) / 2
end Mine

end
section
open PySem PySem.W PyProof.Rows
set_option Elab.async false
set_option maxRecDepth 100000
set_option linter.unusedVariables false
namespace Mine
theorem mul_marks (k : Nat) : Txt.mul (Str.ofString "\"") (k : Int) = marks k := by
  apply str_ext2
  rw [show Str.ofString "\"" = ⟨#[34]⟩ from by kernel_rfl, mul_one_list, marks_list]
  rfl
theorem len_q : (Str.ofString "\"").length = 1 := by kernel_rfl
theorem mulq {prog : Program} {w : World} {A : Around} {Q E : Value → Shared → Prop} {s : Shared} {i : Int} {t u : Tok} {k : Nat} (hi : i = (k : Int)) (hk : k ≤ 1048576)
    (h : ∀ t' k', (marks k).length = k → Q (.str (marks k) t') { s with toks := k' }) :
    wpAny (model prog w) A (binaryOp .Mult (.str (Str.ofString "\"") t) (.int i u)) Q E s := by
  refine KXi.mul len_q (by decide) (by omega) (by omega) fun t' k' _ _ => ?_
  rw [hi, mul_marks]
  exact h t' k' (marks_len k)
theorem mul_dots (k : Nat) : Txt.mul (Str.ofString ".") (k : Int) = dotsN k := by
  apply str_ext2
  rw [show Str.ofString "." = ⟨#[46]⟩ from by kernel_rfl, mul_one_list]
  rfl
theorem len_d : (Str.ofString ".").length = 1 := by kernel_rfl
theorem dotsN_len (k : Nat) : (dotsN k).length = k := by rw [← len_toList]; show (List.replicate k 46).length = k; rw [List.length_replicate]
theorem muld {prog : Program} {w : World} {A : Around} {Q E : Value → Shared → Prop} {s : Shared} {i : Int} {t u : Tok} {k : Nat} (hi : i = (k : Int)) (hk : k ≤ 1048576)
    (h : ∀ t' k', (dotsN k).length = k → Q (.str (dotsN k) t') { s with toks := k' }) :
    wpAny (model prog w) A (binaryOp .Mult (.str (Str.ofString ".") t) (.int i u)) Q E s := by
  refine KXi.mul len_d (by decide) (by omega) (by omega) fun t' k' _ _ => ?_
  rw [hi, mul_dots]
  exact h t' k' (dotsN_len k)
theorem mulqG {F : Int → List (Str × Str)} {f : Nat} (o : OkF F f) {prog : Program} {w : World} {A : Around} {Q E : Value → Shared → Prop} {s : Shared} {t u : Tok} {j : Nat} {sd : Int} {n : Nat} (hj : 2 ≤ j) (hk : j + f * n ≤ 1048576)
    (h : ∀ t' k', (marks (j + f * n - 2)).length = j + f * n - 2 → Q (.str (marks (j + f * n - 2)) t') { s with toks := k' }) :
    wpAny (model prog w) A (binaryOp .Mult (.str (Str.ofString "\"") t) (.int (((duG F j sd n).length : Int) - 2) u)) Q E s :=
  mulq (by rw [du_len o]; omega) (by omega) h
theorem joinqG {F : Int → List (Str × Str)} {f : Nat} (o : OkF F f) {prog : Program} {w : World} {A : Around} {Q E : Value → Shared → Prop} {s : Shared} {t : Tok} {D : Addr} {items : Array Value} {sd : Int} {n j : Nat}
    (hl : s.heap.IsList D items) (hi : StrsAre items.toList ((dt j (spG F sd n)).cps.toList.filterMap tcG)) (hn : j + f * n ≤ 100000)
    (h : ∀ t' k, (duG F (j + 1) sd n).length = j + 1 + f * n → Q (.str (duG F (j + 1) sd n) t') { s with toks := k }) : wpAny (model prog w) A (call (.builtin "str.join") [.str (Str.ofString "") t, .ref D]) Q E s := by
  refine join_list hl hi (prep_sum o j sd n hn) fun t' k => ?_
  have e : Txt.join (Str.ofString "") ((dt j (spG F sd n)).cps.toList.filterMap tcG) = duG F (j + 1) sd n := (StrLaws.glued_eq_join _ _).trans (prep_due o j sd n)
  rw [e]
  exact h t' k (du_len o _ _ _)
theorem dt_le {j : Nat} {s : Str} (h : s.length ≤ 300000) (hj : j ≤ 100) : (dt j s).length ≤ 400000 := by rw [dt_len]; omega
theorem sizesG {F : Int → List (Str × Str)} {f : Nat} (o : OkF F f) {j : Nat} {sd : Int} {n : Nat} {a b : Str} (h1 : a = spG F sd n) (h2 : b = duG F j sd n) :
    a = spG F sd n ∧ b = duG F j sd n ∧ ((a.length : Int) ≤ 1 + 3 * (n : Int)) ∧ ((b.length : Int) ≤ (j : Int) + (f : Int) * (n : Int)) := by
  refine ⟨h1, h2, ?_, ?_⟩
  · rw [h1]; have := sp_len o sd n; omega
  · rw [h2, du_len o]; push_cast; omega
theorem st_twoG {F : Int → List (Str × Str)} {f : Nat} (o : OkF F f) {j : Nat} {sd : Int} {kPre : List Int} {kN : Int} {a b : Str} (e : kN = 0 + (kPre.length : Int)) (h1 : a = spG F sd kPre.length) (h2 : b = duG F j sd kPre.length) (hk : Int.fmod kN 3 = 2) :
    addS (F (sd + kN)) a ++ ⟨#[unC (sd + kN)]⟩ = spG F sd (kPre ++ [kN]).length ∧ addD (F (sd + kN)) b = duG F j sd (kPre ++ [kN]).length ∧
    (((addS (F (sd + kN)) a ++ ⟨#[unC (sd + kN)]⟩ : Str).length : Int) ≤ 1 + 3 * ((kPre ++ [kN]).length : Int)) ∧ (((addD (F (sd + kN)) b).length : Int) ≤ (j : Int) + (f : Int) * ((kPre ++ [kN]).length : Int)) := by
  have e1 : (kPre ++ [kN]).length = kPre.length + 1 := by simp
  have e2 : kN = (kPre.length : Int) := by omega
  rw [e1]
  refine sizesG o ?_ ?_
  · show _ = spG F sd (kPre.length + 1)
    unfold spG
    rw [if_pos (by rw [← e2]; exact hk), h1, ← e2]
  · show _ = duG F j sd (kPre.length + 1)
    unfold duG
    rw [h2, ← e2]
theorem st_oneG {F : Int → List (Str × Str)} {f : Nat} (o : OkF F f) {j : Nat} {sd : Int} {kPre : List Int} {kN : Int} {a b : Str} (e : kN = 0 + (kPre.length : Int)) (h1 : a = spG F sd kPre.length) (h2 : b = duG F j sd kPre.length) (hk : ¬ Int.fmod kN 3 = 2) :
    addS (F (sd + kN)) a = spG F sd (kPre ++ [kN]).length ∧ addD (F (sd + kN)) b = duG F j sd (kPre ++ [kN]).length ∧
    (((addS (F (sd + kN)) a : Str).length : Int) ≤ 1 + 3 * ((kPre ++ [kN]).length : Int)) ∧ (((addD (F (sd + kN)) b).length : Int) ≤ (j : Int) + (f : Int) * ((kPre ++ [kN]).length : Int)) := by
  have e1 : (kPre ++ [kN]).length = kPre.length + 1 := by simp
  have e2 : kN = (kPre.length : Int) := by omega
  rw [e1]
  refine sizesG o ?_ ?_
  · show _ = spG F sd (kPre.length + 1)
    unfold spG
    rw [if_neg (by rw [← e2]; exact hk), h1, ← e2]
  · show _ = duG F j sd (kPre.length + 1)
    unfold duG
    rw [h2, ← e2]
theorem st_start0 (sd : Int) : Str.ofString "." = spG F0 sd ([] : List Int).length ∧ dotsN 2 = duG F0 2 sd ([] : List Int).length ∧ ((Str.ofString "." : Str).length : Int) ≤ 1 + 3 * (([] : List Int).length : Int) ∧ ((dotsN 2 : Str).length : Int) ≤ 2 + 2 * (([] : List Int).length : Int) :=
  sizesG okF0 (n := 0) rfl rfl
theorem st_two0 {sd : Int} {kPre : List Int} {kN : Int} {a b : Str} (e : kN = 0 + (kPre.length : Int)) (h1 : a = spG F0 sd kPre.length) (h2 : b = duG F0 2 sd kPre.length) (hk : Int.fmod kN 3 = 2) :
    a ++ (sF2 (sd + kN)).1 ++ ⟨#[unC (sd + kN)]⟩ = spG F0 sd (kPre ++ [kN]).length ∧ b ++ (sF2 (sd + kN)).2 = duG F0 2 sd (kPre ++ [kN]).length ∧ ((a ++ (sF2 (sd + kN)).1 ++ ⟨#[unC (sd + kN)]⟩ : Str).length : Int) ≤ 1 + 3 * ((kPre ++ [kN]).length : Int) ∧ ((b ++ (sF2 (sd + kN)).2 : Str).length : Int) ≤ 2 + 2 * ((kPre ++ [kN]).length : Int) :=
  st_twoG okF0 e h1 h2 hk
theorem st_one0 {sd : Int} {kPre : List Int} {kN : Int} {a b : Str} (e : kN = 0 + (kPre.length : Int)) (h1 : a = spG F0 sd kPre.length) (h2 : b = duG F0 2 sd kPre.length) (hk : ¬ Int.fmod kN 3 = 2) :
    a ++ (sF2 (sd + kN)).1 = spG F0 sd (kPre ++ [kN]).length ∧ b ++ (sF2 (sd + kN)).2 = duG F0 2 sd (kPre ++ [kN]).length ∧ ((a ++ (sF2 (sd + kN)).1 : Str).length : Int) ≤ 1 + 3 * ((kPre ++ [kN]).length : Int) ∧ ((b ++ (sF2 (sd + kN)).2 : Str).length : Int) ≤ 2 + 2 * ((kPre ++ [kN]).length : Int) :=
  st_oneG okF0 e h1 h2 hk
theorem st_start1 (sd : Int) : Str.ofString "." = spG F1 sd ([] : List Int).length ∧ dotsN 3 = duG F1 3 sd ([] : List Int).length ∧ ((Str.ofString "." : Str).length : Int) ≤ 1 + 3 * (([] : List Int).length : Int) ∧ ((dotsN 3 : Str).length : Int) ≤ 3 + 3 * (([] : List Int).length : Int) :=
  sizesG okF1 (n := 0) rfl rfl
theorem st_two1 {sd : Int} {kPre : List Int} {kN : Int} {a b : Str} (e : kN = 0 + (kPre.length : Int)) (h1 : a = spG F1 sd kPre.length) (h2 : b = duG F1 3 sd kPre.length) (hk : Int.fmod kN 3 = 2) :
    a ++ (sF3 (sd + kN)).1 ++ ⟨#[unC (sd + kN)]⟩ = spG F1 sd (kPre ++ [kN]).length ∧ b ++ (sF3 (sd + kN)).2 = duG F1 3 sd (kPre ++ [kN]).length ∧ ((a ++ (sF3 (sd + kN)).1 ++ ⟨#[unC (sd + kN)]⟩ : Str).length : Int) ≤ 1 + 3 * ((kPre ++ [kN]).length : Int) ∧ ((b ++ (sF3 (sd + kN)).2 : Str).length : Int) ≤ 3 + 3 * ((kPre ++ [kN]).length : Int) :=
  st_twoG okF1 e h1 h2 hk
theorem st_one1 {sd : Int} {kPre : List Int} {kN : Int} {a b : Str} (e : kN = 0 + (kPre.length : Int)) (h1 : a = spG F1 sd kPre.length) (h2 : b = duG F1 3 sd kPre.length) (hk : ¬ Int.fmod kN 3 = 2) :
    a ++ (sF3 (sd + kN)).1 = spG F1 sd (kPre ++ [kN]).length ∧ b ++ (sF3 (sd + kN)).2 = duG F1 3 sd (kPre ++ [kN]).length ∧ ((a ++ (sF3 (sd + kN)).1 : Str).length : Int) ≤ 1 + 3 * ((kPre ++ [kN]).length : Int) ∧ ((b ++ (sF3 (sd + kN)).2 : Str).length : Int) ≤ 3 + 3 * ((kPre ++ [kN]).length : Int) :=
  st_oneG okF1 e h1 h2 hk
theorem st_start2 (sd : Int) : Str.ofString "." = spG F2 sd ([] : List Int).length ∧ dotsN 5 = duG F2 5 sd ([] : List Int).length ∧ ((Str.ofString "." : Str).length : Int) ≤ 1 + 3 * (([] : List Int).length : Int) ∧ ((dotsN 5 : Str).length : Int) ≤ 5 + 5 * (([] : List Int).length : Int) :=
  sizesG okF2 (n := 0) rfl rfl
theorem st_two2 {sd : Int} {kPre : List Int} {kN : Int} {a b : Str} (e : kN = 0 + (kPre.length : Int)) (h1 : a = spG F2 sd kPre.length) (h2 : b = duG F2 5 sd kPre.length) (hk : Int.fmod kN 3 = 2) :
    a ++ (sF3 (sd + kN)).1 ++ (sF2 (sd + kN + 1)).1 ++ ⟨#[unC (sd + kN)]⟩ = spG F2 sd (kPre ++ [kN]).length ∧ b ++ (sF3 (sd + kN)).2 ++ (sF2 (sd + kN + 1)).2 = duG F2 5 sd (kPre ++ [kN]).length ∧ ((a ++ (sF3 (sd + kN)).1 ++ (sF2 (sd + kN + 1)).1 ++ ⟨#[unC (sd + kN)]⟩ : Str).length : Int) ≤ 1 + 3 * ((kPre ++ [kN]).length : Int) ∧ ((b ++ (sF3 (sd + kN)).2 ++ (sF2 (sd + kN + 1)).2 : Str).length : Int) ≤ 5 + 5 * ((kPre ++ [kN]).length : Int) :=
  st_twoG okF2 e h1 h2 hk
theorem st_one2 {sd : Int} {kPre : List Int} {kN : Int} {a b : Str} (e : kN = 0 + (kPre.length : Int)) (h1 : a = spG F2 sd kPre.length) (h2 : b = duG F2 5 sd kPre.length) (hk : ¬ Int.fmod kN 3 = 2) :
    a ++ (sF3 (sd + kN)).1 ++ (sF2 (sd + kN + 1)).1 = spG F2 sd (kPre ++ [kN]).length ∧ b ++ (sF3 (sd + kN)).2 ++ (sF2 (sd + kN + 1)).2 = duG F2 5 sd (kPre ++ [kN]).length ∧ ((a ++ (sF3 (sd + kN)).1 ++ (sF2 (sd + kN + 1)).1 : Str).length : Int) ≤ 1 + 3 * ((kPre ++ [kN]).length : Int) ∧ ((b ++ (sF3 (sd + kN)).2 ++ (sF2 (sd + kN + 1)).2 : Str).length : Int) ≤ 5 + 5 * ((kPre ++ [kN]).length : Int) :=
  st_oneG okF2 e h1 h2 hk
end Mine

end
section
open PySem PySem.W PyProof.Rows
set_option Elab.async false
set_option maxRecDepth 100000
set_option linter.unusedVariables false
namespace Mine
theorem signs0w {w : World} {mean : ExcName → Option Value} {mg mb : Str → Option Value} {news : List (Addr × Obj)} (k : Int) (t t' : Tok) (dp un : Nat) (gd : Option (List Code)) (cn : Str) (cs : Scope) (ad : Addr) (ccd : Value) (cl : List (Str × Addr)) (outer : List Env) (A₀ : Around) (base h₀ : Heap) (L : Addr) (m : Str → Option Value) (s : Shared) (Q E : Value → Shared → Prop)
    (x1 : Below A₀ base outer h₀) (x2 : Fr h₀ L s.heap m) (x3 : (K w.params).In h₀) (x4 : News h₀ L s.heap news) (x5 : Top q01 (looseW q01 loose01) mean mg mb h₀) (x6 : cs.kind = .function)
    (x7 : True) (x8 : dp + 2 < recursionLimit) (x9 : un + 16 < cLine)
    (x10 : (sF2 k).1.length = 1 → (sF2 k).2.length = 2 → ∀ (B T0 : Addr) (h' : Heap) (tk : Nat) (t0 u0 : Tok), Fr h₀ L h' m → News h₀ L h' ((B, listOf #[.ref T0] 0) :: (T0, tup2 (sF2 k).1 (sF2 k).2 t0 u0) :: news) → Q (.ref B) { s with heap := h', toks := tk }) :
      wpAny (model PySem.Challenge.rw_tr0050_03.prog w) (ktrTop dp un gd cn cs L ad ccd cl outer) (call (.ref 172) [.int 0 t, .int k t']) Q E s :=
  signs0 k t t' dp un gd cn cs ad ccd cl outer A₀ base h₀ L m s Q E x1 x2 x3 x4 x5 x6 x7 x8 x9 (x10 (sF2_ok _).1.2.2 (sF2_ok _).2)
theorem signs1w {w : World} {mean : ExcName → Option Value} {mg mb : Str → Option Value} {news : List (Addr × Obj)} (k : Int) (t t' : Tok) (dp un : Nat) (gd : Option (List Code)) (cn : Str) (cs : Scope) (ad : Addr) (ccd : Value) (cl : List (Str × Addr)) (outer : List Env) (A₀ : Around) (base h₀ : Heap) (L : Addr) (m : Str → Option Value) (s : Shared) (Q E : Value → Shared → Prop)
    (x1 : Below A₀ base outer h₀) (x2 : Fr h₀ L s.heap m) (x3 : (K w.params).In h₀) (x4 : News h₀ L s.heap news) (x5 : Top q01 (looseW q01 loose01) mean mg mb h₀) (x6 : cs.kind = .function)
    (x7 : True) (x8 : dp + 2 < recursionLimit) (x9 : un + 16 < cLine)
    (x10 : (sF3 k).1.length = 1 → (sF3 k).2.length = 3 → ∀ (B T0 : Addr) (h' : Heap) (tk : Nat) (t0 u0 : Tok), Fr h₀ L h' m → News h₀ L h' ((B, listOf #[.ref T0] 0) :: (T0, tup2 (sF3 k).1 (sF3 k).2 t0 u0) :: news) → Q (.ref B) { s with heap := h', toks := tk }) :
      wpAny (model PySem.Challenge.rw_tr0050_03.prog w) (ktrTop dp un gd cn cs L ad ccd cl outer) (call (.ref 172) [.int 1 t, .int k t']) Q E s :=
  signs1 k t t' dp un gd cn cs ad ccd cl outer A₀ base h₀ L m s Q E x1 x2 x3 x4 x5 x6 x7 x8 x9 (x10 (sF3_ok _).1.2.2 (sF3_ok _).2)
theorem signs2w {w : World} {mean : ExcName → Option Value} {mg mb : Str → Option Value} {news : List (Addr × Obj)} (k : Int) (t t' : Tok) (dp un : Nat) (gd : Option (List Code)) (cn : Str) (cs : Scope) (ad : Addr) (ccd : Value) (cl : List (Str × Addr)) (outer : List Env) (A₀ : Around) (base h₀ : Heap) (L : Addr) (m : Str → Option Value) (s : Shared) (Q E : Value → Shared → Prop)
    (x1 : Below A₀ base outer h₀) (x2 : Fr h₀ L s.heap m) (x3 : (K w.params).In h₀) (x4 : News h₀ L s.heap news) (x5 : Top q01 (looseW q01 loose01) mean mg mb h₀) (x6 : cs.kind = .function)
    (x7 : True) (x8 : dp + 2 < recursionLimit) (x9 : un + 16 < cLine)
    (x10 : (sF3 k).1.length = 1 → (sF3 k).2.length = 3 → (sF2 (k + 1)).1.length = 1 → (sF2 (k + 1)).2.length = 2 → ∀ (B T0 T1 : Addr) (h' : Heap) (tk : Nat) (t0 u0 t1 u1 : Tok), Fr h₀ L h' m → News h₀ L h' ((B, listOf #[.ref T0, .ref T1] 0) :: (T0, tup2 (sF3 k).1 (sF3 k).2 t0 u0) :: (T1, tup2 (sF2 (k + 1)).1 (sF2 (k + 1)).2 t1 u1) :: news) → Q (.ref B) { s with heap := h', toks := tk }) :
      wpAny (model PySem.Challenge.rw_tr0050_03.prog w) (ktrTop dp un gd cn cs L ad ccd cl outer) (call (.ref 172) [.int 2 t, .int k t']) Q E s :=
  signs2 k t t' dp un gd cn cs ad ccd cl outer A₀ base h₀ L m s Q E x1 x2 x3 x4 x5 x6 x7 x8 x9 (x10 (sF3_ok _).1.2.2 (sF3_ok _).2 (sF2_ok _).1.2.2 (sF2_ok _).2)
theorem quote_d0 {F : Int → List (Str × Str)} {f : Nat} (o : OkF F f) (sd : Int) (n : Nat) : quoteS (dt 0 (spG F sd n)) = dt 1 (spG F sd n) := quote_dt o 0 sd n
theorem quote_d1 {F : Int → List (Str × Str)} {f : Nat} (o : OkF F f) (sd : Int) (n : Nat) : quoteS (dt 1 (spG F sd n)) = dt 2 (spG F sd n) := quote_dt o 1 sd n
theorem quote_d2 {F : Int → List (Str × Str)} {f : Nat} (o : OkF F f) (sd : Int) (n : Nat) : quoteS (dt 2 (spG F sd n)) = dt 3 (spG F sd n) := quote_dt o 2 sd n
theorem quote_d3 {F : Int → List (Str × Str)} {f : Nat} (o : OkF F f) (sd : Int) (n : Nat) : quoteS (dt 3 (spG F sd n)) = dt 4 (spG F sd n) := quote_dt o 3 sd n
theorem joinqH {F : Int → List (Str × Str)} {f : Nat} (o : OkF F f) {prog : Program} {w : World} {A : Around} {Q E : Value → Shared → Prop} {s : Shared} {t : Tok} {D : Addr} {items : Array Value} {sd : Int} {n j J : Nat} (hJ : j + 1 = J)
    (hl : s.heap.IsList D items) (hi : StrsAre items.toList ((dt j (spG F sd n)).cps.toList.filterMap tcG)) (hn : j + f * n ≤ 100000)
    (h : ∀ t' k, (duG F J sd n).length = J + f * n → Q (.str (duG F J sd n) t') { s with toks := k }) : wpAny (model prog w) A (call (.builtin "str.join") [.str (Str.ofString "") t, .ref D]) Q E s := by
  subst hJ
  exact joinqG o hl hi hn h
theorem fm_even {m : Nat} (h : m % 2 = 0) : (Int.fmod ((marks m).length : Int) 2 == 0) = true := by
  rw [marks_len, Int.fmod_eq_emod_of_nonneg _ (by decide)]
  simp; omega
theorem fm_odd {m : Nat} (h : ¬ m % 2 = 0) : (Int.fmod ((marks m).length : Int) 2 == 0) = false := by
  rw [marks_len, Int.fmod_eq_emod_of_nonneg _ (by decide)]
  simp; omega
theorem allLt_mem {d : Addr} : ∀ {l : List (Addr × Obj)}, AllLt d l → ∀ p ∈ l, p.1 < d
  | [], _ => fun _ h => nomatch h
  | q :: r, h => fun p hp => by
    rcases List.mem_cons.mp hp with rfl | hp
    · exact h.1
    · exact allLt_mem h.2 p hp
theorem unr_run {h₀ : Heap} {L i : Addr} {rest : (Str → Option Value) → List (Addr × Obj) → Prop} {s₁ : Shared} {h' : Heap} {tk : Nat} {m' : Str → Option Value} {it : Obj} {D : Addr} {o : Obj} {news : List (Addr × Obj)}
    (F : Fr h₀ L h' m') (N : News h₀ L h' ((i, it) :: (D, o) :: news)) (h1 : @LT.lt Nat _ D i ∧ AllLt i news) (r : rest m' ((D, o) :: news)) : UnrEnd h₀ L s₁ i it rest { s₁ with heap := h', toks := tk } :=
  UnrEnd.intro F N _ (fun p hp => hp) (fun p hp => by
    rcases List.mem_cons.mp hp with rfl | hp
    · exact Nat.ne_of_lt h1.1
    · exact Nat.ne_of_lt (allLt_mem h1.2 p hp)) r
theorem tc_end {news : List (Addr × Obj)} {c : Nat} {t : Tok} (h : isB1 c = false) : TcEl news (tcG c) (.str (mapF ⟨#[c]⟩) t) news := ⟨rfl, mapF ⟨#[c]⟩, t, by unfold tcG; rw [h]; rfl, rfl⟩
theorem tc_no {news : List (Addr × Obj)} {c : Nat} (h : isB1 c = true) : TcNo news (tcG c) news := ⟨rfl, by unfold tcG; rw [h]; rfl⟩
theorem subL_of : ∀ {l all : List (Addr × Obj)}, (∀ p ∈ l, p ∈ all) → SubL l all
  | [], _, _ => trivial
  | p :: r, _, h => ⟨h p List.mem_cons_self, subL_of fun q hq => h q (List.mem_cons_of_mem _ hq)⟩
theorem offW_of {I : Addr} {o : Obj} : ∀ {l : List (Addr × Obj)}, AllLt I l → OffW [(I, o)] l
  | [], _ => trivial
  | p :: r, h => ⟨⟨Or.inl (Nat.ne_of_lt h.1), trivial⟩, offW_of h.2⟩
theorem unrW {h₀ : Heap} {L : Addr} {s₁ : Shared} {I : Addr} {o : Obj} {keep rest : List (Addr × Obj)} {R : (Str → Option Value) → List (Addr × Obj) → Prop} {h' : Heap} {tk : Nat} {m' : Str → Option Value}
    (F : Fr h₀ L h' m') (N : News h₀ L h' ((I, o) :: rest)) (lt : AllLt I rest) (hk : ∀ p ∈ keep, p ∈ rest) (r : R m' rest) : UnrEndW h₀ L s₁ [(I, o)] (fun m' n' => SubL keep n' ∧ R m' n') { s₁ with heap := h', toks := tk } :=
  UnrEndW.intro F N rest (subL_of fun p hp => by rcases List.mem_cons.mp hp with rfl | hp; exact List.mem_cons_self; exact absurd hp List.not_mem_nil) (subL_of fun p hp => List.mem_cons_of_mem _ hp) (offW_of lt) ⟨subL_of hk, r⟩
theorem mem_one {q : Addr × Obj} {r : List (Addr × Obj)} : ∀ x ∈ [q], x ∈ q :: r := fun x hx => by
  rcases List.mem_cons.mp hx with rfl | hx
  · exact List.mem_cons_self
  · exact absurd hx List.not_mem_nil
theorem pow2v {prog : Program} {w : World} {A : Around} {Q E : Value → Shared → Prop} {s : Shared} {t u : Tok} {n v : Int} (hn : 0 ≤ n) (hn2 : n ≤ 1000000) (e : (2 : Int) ^ n.toNat = v) (h : Q (.int v s.toks) { s with toks := s.toks + 1 }) :
    wpAny (model prog w) A (binaryOp .Pow (.int 2 t) (.int n u)) Q E s := pow_int_small hn hn2 (by decide) (by rw [e]; exact h)
structure StopMark : Prop where
theorem stopIn {P : Prop} (h : Stop P) : P := h
theorem stopOut {P : Prop} (h : P) : Stop P := h
structure StopMark2 : Prop where
theorem pow2_0 {prog : Program} {w : World} {A : Around} {Q E : Value → Shared → Prop} {s : Shared} {t u : Tok} (h : Q (.int 1 s.toks) { s with toks := s.toks + 1 }) : wpAny (model prog w) A (binaryOp .Pow (.int 2 t) (.int 0 u)) Q E s := pow2v (v := 1) (by decide) (by decide) (by decide) h
theorem pow2_1 {prog : Program} {w : World} {A : Around} {Q E : Value → Shared → Prop} {s : Shared} {t u : Tok} (h : Q (.int 2 s.toks) { s with toks := s.toks + 1 }) : wpAny (model prog w) A (binaryOp .Pow (.int 2 t) (.int 1 u)) Q E s := pow2v (v := 2) (by decide) (by decide) (by decide) h
theorem pow2_2 {prog : Program} {w : World} {A : Around} {Q E : Value → Shared → Prop} {s : Shared} {t u : Tok} (h : Q (.int 4 s.toks) { s with toks := s.toks + 1 }) : wpAny (model prog w) A (binaryOp .Pow (.int 2 t) (.int 2 u)) Q E s := pow2v (v := 4) (by decide) (by decide) (by decide) h
end Mine

end
section
open PySem PySem.W PyProof.Rows
set_option Elab.async false
set_option maxRecDepth 100000
set_option linter.unusedVariables false
namespace Mine
local macro_rules | `(tactic| walk_at "call ref") => `(tactic| (k_here; k_dflt ((refine quote _ _ _ _ _ _ _ _ _ _ _ _ _ _ _ _ _ _ _ (by k_asm) (by k_asm) (by k_asm) (by k_asm) (by k_asm) (by first | exact rfl | assumption) (by first | trivial | assumption | omega | exact dt_le (by assumption) (by decide) | (simp only [app_len, len257, lenx, marks_len]; omega)) (by ktr_room) (by ktr_units) ?_); intro t9 h9 tk9 F9 N9; (try dsimp only))))
local macro_rules | `(tactic| walk_at "call ref") => `(tactic| (k_here; k_dflt ((refine inb1 _ _ _ _ _ _ _ _ _ _ _ _ _ _ _ _ _ _ _ (by k_asm) (by k_asm) (by k_asm) (by k_asm) (by k_asm) (by first | exact rfl | assumption) (by rfl) (by ktr_room) (by ktr_units) ?_); intro t9 h9 tk9 F9 N9; (try dsimp only))))
local macro_rules | `(tactic| walk_at "call ref") => `(tactic| (k_here; k_dflt ((refine mapb3 _ _ _ _ _ _ _ _ _ _ _ _ _ _ _ _ _ _ _ (by k_asm) (by k_asm) (by k_asm) (by k_asm) (by k_asm) (by first | exact rfl | assumption) (by first | exact low_ok okF0 (by assumption) | exact low_ok okF1 (by assumption) | exact low_ok okF2 (by assumption) | trivial | assumption | omega | (simp only [app_len, len257, lenx, dt_len, marks_len]; omega) | done) (by ktr_room) (by ktr_units) ?_); intro t9 h9 tk9 F9 N9; (try dsimp only))))
local macro_rules | `(tactic| walk_at "call ref") => `(tactic| (k_here; k_dflt ((refine p257 _ _ _ _ _ _ _ _ _ _ _ _ _ _ _ _ _ _ _ (by k_asm) (by k_asm) (by k_asm) (by k_asm) (by k_asm) (by first | exact rfl | assumption) (by first | trivial | assumption | omega | exact dt_le (by assumption) (by decide) | (simp only [app_len, len257, lenx, marks_len]; omega)) (by ktr_room) (by ktr_units) ?_ (fun hbad => absurd (take257 _ _) hbad)); intro _ t9 h9 tk9 F9 N9; (try dsimp only))))
local macro_rules | `(tactic| walk_at "call ref") => `(tactic| (k_here; k_dflt ((refine unseen _ _ _ _ _ _ _ _ _ _ _ _ _ _ _ _ _ _ _ (by k_asm) (by k_asm) (by k_asm) (by k_asm) (by k_asm) (by first | exact rfl | assumption) (by trivial) (by ktr_room) (by ktr_units) ?_); intro t9 h9 tk9 F9 N9; (try dsimp only))))
local macro_rules | `(tactic| walk_at "call ref") => `(tactic| (k_here; k_dflt ((refine signs0w _ _ _ _ _ _ _ _ _ _ _ _ _ _ _ _ _ _ _ _ (by k_asm) (by k_asm) (by k_asm) (by k_asm) (by k_asm) (by first | exact rfl | assumption) (by trivial) (by ktr_room) (by ktr_units) ?_); intro ha9 hb9 B9 T9 h9 tk9 t9 u9 F9 N9; (try dsimp only))))
local macro_rules | `(tactic| walk_at "call ref") => `(tactic| (k_here; k_dflt ((refine signs1w _ _ _ _ _ _ _ _ _ _ _ _ _ _ _ _ _ _ _ _ (by k_asm) (by k_asm) (by k_asm) (by k_asm) (by k_asm) (by first | exact rfl | assumption) (by trivial) (by ktr_room) (by ktr_units) ?_); intro ha9 hb9 B9 T9 h9 tk9 t9 u9 F9 N9; (try dsimp only))))
local macro_rules | `(tactic| walk_at "call ref") => `(tactic| (k_here; k_dflt ((refine signs2w _ _ _ _ _ _ _ _ _ _ _ _ _ _ _ _ _ _ _ _ (by k_asm) (by k_asm) (by k_asm) (by k_asm) (by k_asm) (by first | exact rfl | assumption) (by trivial) (by ktr_room) (by ktr_units) ?_); intro ha9 hb9 hc9 hd9 B9 T9 T8 h9 tk9 t9 u9 t8 u8 F9 N9; (try dsimp only))))
local macro_rules | `(tactic| walk_at "storeName") => `(tactic| (k_here; first | rw [pf_even (by assumption)] | rw [pf_odd (by assumption)] | rw [marks_add] | rw [init_x] | rw [quote_d0 okF0] | rw [quote_d0 okF1] | rw [quote_d1 okF1] | rw [quote_d0 okF2] | rw [quote_d1 okF2] | rw [quote_d2 okF2] | rw [quote_d3 okF2]))
local macro_rules | `(tactic| walk_at "truthy bool") => `(tactic| (k_here; first | rw [last_m] | rw [fm_even (by assumption)] | rw [fm_odd (by assumption)] | rw [last_x, beq_self_eq_true] | rw [last_x, bne_self_eq_false] | rw [bne_self_eq_false]))
local macro_rules | `(tactic| walk_at "eval ListComp") => `(tactic| (k_here; k_dflt (refine tc_comp (F₀ := by k_asm) (by with_unfolding_all rfl) (by decide) (by rfl) (by decide) (by rfl) ?_)))
local macro_rules | `(tactic| walk_at "UnrEnd") => `(tactic| (k_here; k_dflt (refine UnrEnd.intro (by k_asm) (by k_asm) _ (fun p hp => hp) (fun p hp => Nat.ne_of_lt ((by assumption : ∀ p ∈ _, Prod.fst p < _) p hp)) ?_)))
local macro_rules | `(tactic| walk_at "UnrEnd") => `(tactic| (k_here; k_dflt (refine unr_run (by k_asm) (by k_asm) (by assumption) ?_)))
local macro_rules | `(tactic| walk_at "TcSrc") => `(tactic| (k_here; k_dflt (refine ⟨_, _, _, rfl, by rfl, by k_asm, by k_asm, by (show (dt _ _).length ≤ 16777216; rw [dt_len]; omega), ?_⟩); intro s₂ hs₂; obtain ⟨g', hs₂⟩ := hs₂; subst hs₂; k_dflt (refine tc_rest tcG ?_ ?_)))
local macro_rules | `(tactic| walk_at "TcEl") => `(tactic| (k_here; k_dflt (exact tc_end (by first | assumption | simpa using (by assumption)))))
local macro_rules | `(tactic| walk_at "TcNo") => `(tactic| (k_here; k_dflt (exact tc_no (by first | assumption | simpa using (by assumption)))))
local macro_rules | `(tactic| walk_at "CompEnd") => `(tactic| (k_here; k_dflt (refine LCg.CompEnd.intro (by k_asm) (by k_asm) _ (fun p hp => hp) (by first | assumption | lcg_off) trivial ?_)))
local macro_rules | `(tactic| walk_at "binaryOp Mult str int") => `(tactic| (k_here; first
  | ((with_reducible show wpAny _ _ (binaryOp Operator.Mult (Value.str (Str.ofString ".") _) (Value.int _ _)) _ _ _); k_dflt (first | refine muld (k := 2) (by rfl) (by decide) ?_ | refine muld (k := 3) (by rfl) (by decide) ?_ | refine muld (k := 5) (by rfl) (by decide) ?_); intro tm9 km9 hm9)
  | ((with_reducible show wpAny _ _ (binaryOp Operator.Mult (Value.str (Str.ofString "\"") _) (Value.int _ _)) _ _ _); k_dflt (first | refine mulqG okF0 (by decide) (by omega) ?_ | refine mulqG okF1 (by decide) (by omega) ?_ | refine mulqG okF2 (by decide) (by omega) ?_); intro tm9 km9 hm9)))
local macro_rules | `(tactic| walk_at "call builtin:str.join") => `(tactic| (k_here; k_dflt (first | refine joinqH okF0 (j := 1) (J := 2) rfl (News.isList (by k_asm) (by k_mem)) (by with_reducible assumption) (by omega) ?_ | refine joinqH okF1 (j := 2) (J := 3) rfl (News.isList (by k_asm) (by k_mem)) (by with_reducible assumption) (by omega) ?_ | refine joinqH okF2 (j := 4) (J := 5) rfl (News.isList (by k_asm) (by k_mem)) (by with_reducible assumption) (by omega) ?_); intro tj9 kj9 hj9))
local macro_rules | `(tactic| walk_at "exec For Tuple Call cons nil") => `(tactic| (k_here; (rename Fr _ _ _ _ => lF'); (with_unfolding_all refine' For_turns lF' ?_); k_whole))
local macro_rules | `(tactic| walk_at "pyIter ref") => `(tactic| (k_here; (with_reducible show wpAny _ _ (pyIter (Value.ref _)) (fun it s₂ => TurnsAt _ _ _ _ _ _ _ _ _ it s₂) _ _); (first | (with_unfolding_all refine iter_listTurns (vs := [_]) (by rfl) (by k_asm) (by k_asm) (List.Mem.head _) (by rfl) (by rfl) ?_) | (with_unfolding_all refine iter_listTurns (vs := [_, _]) (by rfl) (by k_asm) (by k_asm) (List.Mem.head _) (by rfl) (by rfl) ?_)); intro i' l1; (try k_lt l1)))
local macro_rules | `(tactic| walk_at "UnrEndW") => `(tactic| (k_here; k_dflt (refine unrW (by k_asm) (by k_asm) (by assumption) mem_one ?_)))
local macro_rules | `(tactic| walk_at "binaryOp Pow int int") => `(tactic| (k_here; k_dflt (refine pow2_0 ?_)))
local macro_rules | `(tactic| walk_at "pyIter ref") => `(tactic| (k_here; (rename StopMark => hm'); (clear hm'); with_reducible refine Stop.intro ?_))
local macro_rules | `(tactic| walk_at "exec For Name Call cons nil") => `(tactic| (k_here; (rename StopMark2 => hm'); (with_reducible show wpAny _ _ (exec (Stmt.For _ (Expr.Call _ [Expr.Call _ _ _ _] _ _) _ _ _) _) _ _ _); (clear hm'); with_reducible refine Stop.intro ?_))
set_option maxHeartbeats 3000000 in
theorem grown0 {w : World} {mean : ExcName → Option Value} {mg mb : Str → Option Value} {news : List (Addr × Obj)} (n : Nat) (sd : Int) (t t1 t2 : Tok) :
  ∀ (dp un : Nat) (gd : Option (List Code)) (cn : Str) (cs : Scope) (ad : Addr) (ccd : Value) (cl : List (Str × Addr)) (outer : List Env) (A₀ : Around) (base h₀ : Heap) (L : Addr) (m : Str → Option Value) (s : Shared) (Q E : Value → Shared → Prop),
    Below A₀ base outer h₀ → Fr h₀ L s.heap m → (K w.params).In h₀ → News h₀ L s.heap news → Top q01 (looseW q01 loose01) mean mg mb h₀ → cs.kind = .function →
    (n ≤ 1000) → dp + 3 < recursionLimit → un + 24 < cLine →
    (∀ (h' : Heap) (tk : Nat) (t : Tok), Fr h₀ L h' m → News h₀ L h' news → Q (.str (marks (gN 0 n)) t) { s with heap := h', toks := tk }) →
      wpAny (model PySem.Challenge.rw_tr0050_03.prog w) (ktrTop dp un gd cn cs L ad ccd cl outer) (call (.ref 177) [.str (marks n) t, .int 0 t1, .int sd t2]) Q E s := by
  k_fill
  intros
  rename_i hn hdp hun hret
  have hrl : (marks n).length = n := marks_len n
  have hmark : StopMark := ⟨⟩
  refine wpAny_call ?_
  k_dflt cell_enter
  k_steps
  k_with "state" => first | exact st_start0 _ | exact st_two0 (by assumption) (by assumption) (by assumption) (by assumption) | exact st_one0 (by assumption) (by assumption) (by assumption) (by assumption)
  unfold Stop
  k_state_given ["seed"] (fun seed pre spelled due => spelled = spG F0 seed pre.length ∧ due = duG F0 2 seed pre.length ∧ (spelled.length : Int) ≤ 1 + 3 * pre.length ∧ (due.length : Int) ≤ 2 + 2 * pre.length) "spelled" "due"
  · k_steps
  · dsimp only
    rename (_ = spG _ _ _) => hsp
    rename (_ = duG _ _ _ _) => hdu
    have hlen : (rangeKs 0 (((marks n).length : Int) - 0).toNat).length = n := by rw [rangeKs_length, hrl]; omega
    rename (_ ≤ 1 + 3 * _) => hsl
    rename (_ ≤ 2 + 2 * _) => hdl
    rw [hlen] at hsp hdu hsl hdl
    subst hsp hdu
    have hsl2 : (spG F0 sd n).length ≤ 300000 := by omega
    rw [← dt_zero (spG F0 sd n)] at *
    have hsl3 : (spG F0 sd n).length ≤ 300000 := hsl2
    have hsl4 : (dt 0 (spG F0 sd n)).length ≤ 400000 := dt_le hsl3 (by decide)
    have hmark2 : StopMark2 := ⟨⟩
    refine stopIn (stopOut ?_)
    k_steps
    · have hp0 : (2 + 2 * n - 2 + (2 + 2 * n - 2)) % 2 = 0 := by omega
      have hm0 : (marks (2 + 2 * n - 2 + (2 + 2 * n - 2))).length = (2 + 2 * n - 2 + (2 + 2 * n - 2)) := marks_len _
      have hl0 : (marks ((2 + 2 * n - 2 + (2 + 2 * n - 2)) / 2) ++ Str.ofString "x").length = (2 + 2 * n - 2 + (2 + 2 * n - 2)) / 2 + 1 := by rw [app_len, marks_len, lenx]
      have hk0 : (marks ((2 + 2 * n - 2 + (2 + 2 * n - 2)) / 2)).length = (2 + 2 * n - 2 + (2 + 2 * n - 2)) / 2 := marks_len _
      have hG : gN 0 n = (2 + 2 * n - 2 + (2 + 2 * n - 2)) / 2 := by unfold gN; simp; try omega
      rw [hG] at hret
      refine stopOut ?_
      k_steps
      all_goals (first | exact hret _ _ _ (by assumption) (by refine' cb_drop ?cbN ?cbS; (case cbN => assumption); (case cbS => kcj_all)) | (fail "open"))

local macro_rules | `(tactic| walk_at "call ref") => `(tactic| (k_here; k_dflt ((refine mapb3 _ _ _ _ _ _ _ _ _ _ _ _ _ _ _ _ _ _ _ (by k_asm) (by k_asm) (by k_asm) (by k_asm) (by k_asm) (by first | exact rfl | assumption) (by first | exact low_ok okF1 (by assumption) | trivial | assumption | omega | (simp only [app_len, len257, lenx, dt_len, marks_len]; omega) | done) (by ktr_room) (by ktr_units) ?_); intro t9 h9 tk9 F9 N9; (try dsimp only))))
local macro_rules | `(tactic| walk_at "storeName") => `(tactic| (k_here; first | rw [pf_even (by assumption)] | rw [pf_odd (by assumption)] | rw [marks_add] | rw [init_x] | rw [quote_d0 okF1] | rw [quote_d1 okF1]))
local macro_rules | `(tactic| walk_at "binaryOp Mult str int") => `(tactic| (k_here; first
  | ((with_reducible show wpAny _ _ (binaryOp Operator.Mult (Value.str (Str.ofString ".") _) (Value.int _ _)) _ _ _); k_dflt (first | refine muld (k := 3) (by rfl) (by decide) ?_); intro tm9 km9 hm9)
  | ((with_reducible show wpAny _ _ (binaryOp Operator.Mult (Value.str (Str.ofString "\"") _) (Value.int _ _)) _ _ _); k_dflt (first | refine mulqG okF1 (by decide) (by omega) ?_); intro tm9 km9 hm9)))
local macro_rules | `(tactic| walk_at "call builtin:str.join") => `(tactic| (k_here; k_dflt (first | refine joinqH okF1 (j := 2) (J := 3) rfl (News.isList (by k_asm) (by k_mem)) (by with_reducible assumption) (by omega) ?_); intro tj9 kj9 hj9))
local macro_rules | `(tactic| walk_at "binaryOp Pow int int") => `(tactic| (k_here; k_dflt (refine pow2_1 ?_)))
set_option maxHeartbeats 3000000 in
theorem grown1 {w : World} {mean : ExcName → Option Value} {mg mb : Str → Option Value} {news : List (Addr × Obj)} (n : Nat) (sd : Int) (t t1 t2 : Tok) :
  ∀ (dp un : Nat) (gd : Option (List Code)) (cn : Str) (cs : Scope) (ad : Addr) (ccd : Value) (cl : List (Str × Addr)) (outer : List Env) (A₀ : Around) (base h₀ : Heap) (L : Addr) (m : Str → Option Value) (s : Shared) (Q E : Value → Shared → Prop),
    Below A₀ base outer h₀ → Fr h₀ L s.heap m → (K w.params).In h₀ → News h₀ L s.heap news → Top q01 (looseW q01 loose01) mean mg mb h₀ → cs.kind = .function →
    (n ≤ 1000) → dp + 3 < recursionLimit → un + 24 < cLine →
    (∀ (h' : Heap) (tk : Nat) (t : Tok), Fr h₀ L h' m → News h₀ L h' news → Q (.str (marks (gN 1 n)) t) { s with heap := h', toks := tk }) →
      wpAny (model PySem.Challenge.rw_tr0050_03.prog w) (ktrTop dp un gd cn cs L ad ccd cl outer) (call (.ref 177) [.str (marks n) t, .int 1 t1, .int sd t2]) Q E s := by
  k_fill
  intros
  rename_i hn hdp hun hret
  have hrl : (marks n).length = n := marks_len n
  have hmark : StopMark := ⟨⟩
  refine wpAny_call ?_
  k_dflt cell_enter
  k_steps
  k_with "state" => first | exact st_start1 _ | exact st_two1 (by assumption) (by assumption) (by assumption) (by assumption) | exact st_one1 (by assumption) (by assumption) (by assumption) (by assumption)
  unfold Stop
  k_state_given ["seed"] (fun seed pre spelled due => spelled = spG F1 seed pre.length ∧ due = duG F1 3 seed pre.length ∧ (spelled.length : Int) ≤ 1 + 3 * pre.length ∧ (due.length : Int) ≤ 3 + 3 * pre.length) "spelled" "due"
  · k_steps
  · dsimp only
    rename (_ = spG _ _ _) => hsp
    rename (_ = duG _ _ _ _) => hdu
    have hlen : (rangeKs 0 (((marks n).length : Int) - 0).toNat).length = n := by rw [rangeKs_length, hrl]; omega
    rename (_ ≤ 1 + 3 * _) => hsl
    rename (_ ≤ 3 + 3 * _) => hdl
    rw [hlen] at hsp hdu hsl hdl
    subst hsp hdu
    have hsl2 : (spG F1 sd n).length ≤ 300000 := by omega
    rw [← dt_zero (spG F1 sd n)] at *
    have hsl3 : (spG F1 sd n).length ≤ 300000 := hsl2
    have hsl4 : (dt 0 (spG F1 sd n)).length ≤ 400000 := dt_le hsl3 (by decide)
    have hmark2 : StopMark2 := ⟨⟩
    refine stopIn (stopOut ?_)
    k_steps
    by_cases hp0 : (3 + 3 * n - 2) % 2 = 0
    · skip
      have hm0 : (marks (3 + 3 * n - 2)).length = (3 + 3 * n - 2) := marks_len _
      have hl0 : (marks ((3 + 3 * n - 2) / 2) ++ Str.ofString "x").length = (3 + 3 * n - 2) / 2 + 1 := by rw [app_len, marks_len, lenx]
      have hk0 : (marks ((3 + 3 * n - 2) / 2)).length = (3 + 3 * n - 2) / 2 := marks_len _
      have hG : gN 1 n = (3 + 3 * n - 2) / 2 := by unfold gN; simp; try omega
      rw [hG] at hret
      refine stopOut ?_
      k_steps
      all_goals (first | exact hret _ _ _ (by assumption) (by refine' cb_drop ?cbN ?cbS; (case cbN => assumption); (case cbS => kcj_all)) | (fail "open"))
    · skip
      have hm0 : (marks (3 + 3 * n - 2)).length = (3 + 3 * n - 2) := marks_len _
      have hl0 : (marks ((3 + 3 * n - 2) / 2) ++ Str.ofString "x").length = (3 + 3 * n - 2) / 2 + 1 := by rw [app_len, marks_len, lenx]
      have hk0 : (marks ((3 + 3 * n - 2) / 2)).length = (3 + 3 * n - 2) / 2 := marks_len _
      have hG : gN 1 n = (3 + 3 * n - 2) / 2 := by unfold gN; simp; try omega
      rw [hG] at hret
      refine stopOut ?_
      k_steps
      all_goals (first | exact hret _ _ _ (by assumption) (by refine' cb_drop ?cbN ?cbS; (case cbN => assumption); (case cbS => kcj_all)) | (fail "open"))

local macro_rules | `(tactic| walk_at "call ref") => `(tactic| (k_here; k_dflt ((refine mapb3 _ _ _ _ _ _ _ _ _ _ _ _ _ _ _ _ _ _ _ (by k_asm) (by k_asm) (by k_asm) (by k_asm) (by k_asm) (by first | exact rfl | assumption) (by first | exact low_ok okF2 (by assumption) | trivial | assumption | omega | (simp only [app_len, len257, lenx, dt_len, marks_len]; omega) | done) (by ktr_room) (by ktr_units) ?_); intro t9 h9 tk9 F9 N9; (try dsimp only))))
local macro_rules | `(tactic| walk_at "storeName") => `(tactic| (k_here; first | rw [pf_even (by assumption)] | rw [pf_odd (by assumption)] | rw [marks_add] | rw [init_x] | rw [quote_d0 okF2] | rw [quote_d1 okF2] | rw [quote_d2 okF2] | rw [quote_d3 okF2]))
local macro_rules | `(tactic| walk_at "binaryOp Mult str int") => `(tactic| (k_here; first
  | ((with_reducible show wpAny _ _ (binaryOp Operator.Mult (Value.str (Str.ofString ".") _) (Value.int _ _)) _ _ _); k_dflt (first | refine muld (k := 5) (by rfl) (by decide) ?_); intro tm9 km9 hm9)
  | ((with_reducible show wpAny _ _ (binaryOp Operator.Mult (Value.str (Str.ofString "\"") _) (Value.int _ _)) _ _ _); k_dflt (first | refine mulqG okF2 (by decide) (by omega) ?_); intro tm9 km9 hm9)))
local macro_rules | `(tactic| walk_at "call builtin:str.join") => `(tactic| (k_here; k_dflt (first | refine joinqH okF2 (j := 4) (J := 5) rfl (News.isList (by k_asm) (by k_mem)) (by with_reducible assumption) (by omega) ?_); intro tj9 kj9 hj9))
local macro_rules | `(tactic| walk_at "binaryOp Pow int int") => `(tactic| (k_here; k_dflt (refine pow2_2 ?_)))
noncomputable def halfN (M : Nat) : Nat → Nat
  | 0 => M
  | k + 1 => halfN M k / 2
theorem halfN_start {M : Nat} (h : M ≤ 10000) : marks M = marks (halfN M ([] : List Int).length) ∧ halfN M ([] : List Int).length ≤ 10000 := ⟨rfl, h⟩
theorem halfN_step {M : Nat} {pre : List Int} {kN : Int} (h : halfN M pre.length ≤ 10000) : marks (halfN M pre.length / 2) = marks (halfN M (pre ++ [kN]).length) ∧ halfN M (pre ++ [kN]).length ≤ 10000 := by
  have e1 : (pre ++ [kN]).length = pre.length + 1 := by simp
  rw [e1]
  refine ⟨rfl, ?_⟩
  show halfN M pre.length / 2 ≤ 10000
  omega
structure StopMark3 : Prop where
local macro_rules | `(tactic| walk_at "pyIter ref") => `(tactic| (k_here; (rename StopMark3 => hm'); (clear hm'); with_reducible refine Stop.intro ?_))
set_option maxHeartbeats 9000000 in
theorem grown2 {w : World} {mean : ExcName → Option Value} {mg mb : Str → Option Value} {news : List (Addr × Obj)} (n : Nat) (sd : Int) (t t1 t2 : Tok) :
  ∀ (dp un : Nat) (gd : Option (List Code)) (cn : Str) (cs : Scope) (ad : Addr) (ccd : Value) (cl : List (Str × Addr)) (outer : List Env) (A₀ : Around) (base h₀ : Heap) (L : Addr) (m : Str → Option Value) (s : Shared) (Q E : Value → Shared → Prop),
    Below A₀ base outer h₀ → Fr h₀ L s.heap m → (K w.params).In h₀ → News h₀ L s.heap news → Top q01 (looseW q01 loose01) mean mg mb h₀ → cs.kind = .function →
    (n ≤ 1000) → dp + 3 < recursionLimit → un + 24 < cLine →
    (∀ (h' : Heap) (tk : Nat) (t : Tok), Fr h₀ L h' m → News h₀ L h' news → Q (.str (marks (gN 2 n)) t) { s with heap := h', toks := tk }) →
      wpAny (model PySem.Challenge.rw_tr0050_03.prog w) (ktrTop dp un gd cn cs L ad ccd cl outer) (call (.ref 177) [.str (marks n) t, .int 2 t1, .int sd t2]) Q E s := by
  k_fill
  intros
  rename_i hn hdp hun hret
  have hrl : (marks n).length = n := marks_len n
  have hmark : StopMark := ⟨⟩
  refine wpAny_call ?_
  k_dflt cell_enter
  k_steps
  k_with "state" => first | exact st_start2 _ | exact st_two2 (by assumption) (by assumption) (by assumption) (by assumption) | exact st_one2 (by assumption) (by assumption) (by assumption) (by assumption)
  unfold Stop
  k_state_given ["seed"] (fun seed pre spelled due => spelled = spG F2 seed pre.length ∧ due = duG F2 5 seed pre.length ∧ (spelled.length : Int) ≤ 1 + 3 * pre.length ∧ (due.length : Int) ≤ 5 + 5 * pre.length) "spelled" "due"
  · k_steps
  · dsimp only
    rename (_ = spG _ _ _) => hsp
    rename (_ = duG _ _ _ _) => hdu
    have hlen : (rangeKs 0 (((marks n).length : Int) - 0).toNat).length = n := by rw [rangeKs_length, hrl]; omega
    rename (_ ≤ 1 + 3 * _) => hsl
    rename (_ ≤ 5 + 5 * _) => hdl
    rw [hlen] at hsp hdu hsl hdl
    subst hsp hdu
    have hsl2 : (spG F2 sd n).length ≤ 300000 := by omega
    rw [← dt_zero (spG F2 sd n)] at *
    have hsl3 : (spG F2 sd n).length ≤ 300000 := hsl2
    have hsl4 : (dt 0 (spG F2 sd n)).length ≤ 400000 := dt_le hsl3 (by decide)
    have hmark2 : StopMark2 := ⟨⟩
    refine stopIn (stopOut ?_)
    k_steps
    have hmark3 : StopMark3 := ⟨⟩
    refine stopOut ?_
    k_steps
    unfold Stop
    have hMb : (5 + 5 * n - 2) ≤ 10000 := by omega
    k_with "state" => (with_reducible show marks _ = marks _ ∧ _); first | exact halfN_step (by with_reducible assumption) | exact halfN_start (by with_reducible assumption)
    k_state_given ["seed"] (fun seed pre marks => marks = Mine.marks (halfN (5 + 5 * n - 2) pre.length) ∧ halfN (5 + 5 * n - 2) pre.length ≤ 10000) "marks"
    · with_reducible rename (_ = marks (halfN _ _)) => hmk
      subst hmk
      by_cases hp0 : halfN (5 + 5 * n - 2) kPre.length % 2 = 0
      · skip
        have hm0 : (marks (halfN (5 + 5 * n - 2) kPre.length)).length = halfN (5 + 5 * n - 2) kPre.length := marks_len _
        have hl0 : (marks (halfN (5 + 5 * n - 2) kPre.length / 2) ++ Str.ofString "x").length = halfN (5 + 5 * n - 2) kPre.length / 2 + 1 := by rw [app_len, marks_len, lenx]
        have hk0 : (marks (halfN (5 + 5 * n - 2) kPre.length / 2)).length = halfN (5 + 5 * n - 2) kPre.length / 2 := marks_len _
        refine stopIn (stopOut ?_)
        k_steps
        all_goals (fail "open")
      · skip
        have hm0 : (marks (halfN (5 + 5 * n - 2) kPre.length)).length = halfN (5 + 5 * n - 2) kPre.length := marks_len _
        have hl0 : (marks (halfN (5 + 5 * n - 2) kPre.length / 2) ++ Str.ofString "x").length = halfN (5 + 5 * n - 2) kPre.length / 2 + 1 := by rw [app_len, marks_len, lenx]
        have hk0 : (marks (halfN (5 + 5 * n - 2) kPre.length / 2)).length = halfN (5 + 5 * n - 2) kPre.length / 2 := marks_len _
        refine stopIn (stopOut ?_)
        k_steps
        all_goals (fail "open")
    · dsimp only
      with_reducible rename (_ = marks (halfN _ _)) => hmk
      have hmk2 : _ = marks (halfN (5 + 5 * n - 2) 2) := hmk
      clear hmk
      subst hmk2
      have hG : gN 2 n = halfN (5 + 5 * n - 2) 2 := by unfold gN halfN; simp [halfN]; try omega
      rw [hG] at hret
      refine stopIn (stopOut ?_)
      k_steps
      all_goals (first | exact hret _ _ _ (by assumption) (by refine' cb_drop ?cbN ?cbS; (case cbN => assumption); (case cbS => kcj_all)) | (fail "open"))
end Mine

end
section
open PySem PySem.W PyProof.Rows
set_option Elab.async false
set_option maxRecDepth 100000
set_option linter.unusedVariables false
namespace Mine
noncomputable def joF (z : Int) : Nat → List Int → Int → List Int
  | 0, _, _ => []
  | k + 1, l, p => l.getD (Int.fmod (p + z) (l.length : Int)).toNat 0 :: joF z k (l.eraseIdx (Int.fmod (p + z) (l.length : Int)).toNat) (Int.fmod (p + z) (l.length : Int))
noncomputable def jo (z : Int) (l : List Int) (p : Int) : List Int := joF z l.length l p
theorem jo_ix {l : List Int} {p z : Int} (hne : l ≠ []) : 0 ≤ Int.fmod (p + z) (l.length : Int) ∧ Int.fmod (p + z) (l.length : Int) < (l.length : Int) := by
  have h : 0 < l.length := List.length_pos_iff.mpr hne
  exact ⟨Int.fmod_nonneg_of_pos _ (by omega), Int.fmod_lt_of_pos _ (by omega)⟩
theorem ne_of_dec {l : List Int} (h : decide (l = []) = false) : l ≠ [] := of_decide_eq_false h
theorem jo_er {l : List Int} {p z : Int} (hne : l ≠ []) : (l.eraseIdx (Int.fmod (p + z) (l.length : Int)).toNat).length = l.length - 1 := by
  have h := jo_ix (p := p) (z := z) hne
  rw [List.length_eraseIdx, if_pos (by omega)]
theorem jo_cons {l : List Int} {p z : Int} (hne : l ≠ []) : jo z l p = l.getD (Int.fmod (p + z) (l.length : Int)).toNat 0 :: jo z (l.eraseIdx (Int.fmod (p + z) (l.length : Int)).toNat) (Int.fmod (p + z) (l.length : Int)) := by
  have h : 0 < l.length := List.length_pos_iff.mpr hne
  obtain ⟨k, hk⟩ : ∃ k, l.length = k + 1 := ⟨l.length - 1, by omega⟩
  unfold jo
  rw [jo_er hne, hk]
  show joF z (k + 1) l p = _ :: joF z k _ _
  rw [joF, hk]
theorem jo_step {l g r0 : List Int} {p z : Int} (h : g ++ jo z l p = r0) (hl : g.length + l.length ≤ 9) (hd : decide (l = []) = false) :
    (g ++ [l.getD (Int.fmod (p + z) (l.length : Int)).toNat 0]) ++ jo z (l.eraseIdx (Int.fmod (p + z) (l.length : Int)).toNat) (Int.fmod (p + z) (l.length : Int)) = r0 ∧
    (g ++ [l.getD (Int.fmod (p + z) (l.length : Int)).toNat 0]).length + (l.eraseIdx (Int.fmod (p + z) (l.length : Int)).toNat).length ≤ 9 := by
  have hne := ne_of_dec hd
  have hp : 0 < l.length := List.length_pos_iff.mpr hne
  refine ⟨?_, ?_⟩
  · rw [← h, jo_cons hne]; simp
  · rw [jo_er hne]; simp; omega
theorem jo_less {l : List Int} {p z : Int} (hd : decide (l = []) = false) : (l.eraseIdx (Int.fmod (p + z) (l.length : Int)).toNat).length < l.length := by
  have hne := ne_of_dec hd
  have hp : 0 < l.length := List.length_pos_iff.mpr hne
  rw [jo_er hne]; omega
theorem jo_absurd {l : List Int} (hd : decide (l = []) = false) (h0 : (l.length : Int) = 0) : False := by
  have hp : 0 < l.length := List.length_pos_iff.mpr (ne_of_dec hd)
  omega
theorem jo_end {l g r0 : List Int} {p z : Int} (h : g ++ jo z l p = r0) (hd : decide (l = []) = true) : g = r0 := by
  have e : l = [] := of_decide_eq_true hd
  subst e
  rw [← h]
  exact (List.append_nil g).symm
theorem cut_at : ∀ {us : List Value} {k : Nat} {y : Value}, us[k]? = some y → kl_cut us k = some (us.take k, y, us.drop (k + 1))
  | [], k, y, h => by simp at h
  | x :: r, 0, y, h => by simp at h; subst h; rfl
  | x :: r, k + 1, y, h => by
    have h' : r[k]? = some y := by simpa using h
    unfold kl_cut
    rw [cut_at h']
    rfl
theorem ints_at {us : List Value} {l : List Int} (hi : IntsAre us l) : ∀ {k : Nat}, k < l.length → ∃ t, us[k]? = some (.int (l.getD k 0) t) := by
  induction hi with
  | nil => intro k h; exact absurd h (Nat.not_lt_zero _)
  | cons a t r ih =>
    intro k h
    cases k with
    | zero => exact ⟨t, rfl⟩
    | succ k =>
      obtain ⟨u, hu⟩ := ih (k := k) (by simpa using h)
      exact ⟨u, by simpa using hu⟩
theorem ints_erase {us : List Value} {l : List Int} (hi : IntsAre us l) : ∀ (k : Nat), IntsAre (us.eraseIdx k) (l.eraseIdx k) := by
  induction hi with
  | nil => intro k; exact .nil
  | cons a t r ih =>
    intro k
    cases k with
    | zero => exact r
    | succ k => exact .cons a t (ih k)
theorem popAt {prog : Program} {w : World} {A : Around} {Q E : Value → Shared → Prop} {s : Shared} {h₀ : Heap} {L D : Addr} {m : Str → Option Value} {news news' : List (Addr × Obj)} {n : Nat} {us : List Value} {l : List Int} {i : Int} {u : Tok}
    (F : Fr h₀ L s.heap m) (N : News h₀ L s.heap news) (U : Upd D (listOf us.toArray n) (listOf (us.eraseIdx i.toNat).toArray (n + 1)) news news') (hi : IntsAre us l) (h0 : 0 ≤ i ∧ i < (l.length : Int)) (hl : l.length ≤ 1000)
    (h : ∀ h' t, Fr h₀ L h' m → News h₀ L h' news' → IntsAre (us.eraseIdx i.toNat) (l.eraseIdx i.toNat) → Q (.int (l.getD i.toNat 0) t) { s with heap := h' }) :
    wpAny (model prog w) A (call (.builtin "list.pop") [.ref D, .int i u]) Q E s := by
  have hlen : us.length = l.length := IntsAre.length hi
  obtain ⟨t, ht⟩ := ints_at hi (k := i.toNat) (by omega)
  have hsz : us.toArray.size = us.length := List.size_toArray
  refine kl_popAt (n := n) (k := i.toNat) (p := us.take i.toNat) (y := .int (l.getD i.toNat 0) t) (q := us.drop (i.toNat + 1)) F N (fitsIndex_of h0.1 (by omega)) ?_ (cut_at ht) ?_ ?_ fun h' F' N' => h h' t F' N' (ints_erase hi _)
  · have hn : ¬ i < 0 := by omega
    have h1 : i < ((us.toArray.size : Nat) : Int) := by rw [hsz]; omega
    unfold seqIndex?
    simp only [hn, if_false]
    rw [if_pos (by simp only [Bool.and_eq_true, decide_eq_true_eq]; exact ⟨h0.1, h1⟩)]
  · rw [← List.eraseIdx_eq_take_drop_succ]; exact U
  · show us.length ≤ sizeLine
    rw [PySem.sizeLine_eq]; omega
end Mine

end
section
open PySem PySem.W PyProof.Rows
set_option Elab.async false
set_option maxRecDepth 100000
set_option linter.unusedVariables false
namespace Mine
noncomputable def itN (o : Nat) (sc : Int) (r0 : Nat) : Nat → Nat
  | 0 => r0
  | k + 1 => if ((marks (itN o sc r0 k)).length : Int) ≤ sc then gN o (itN o sc r0 k) else itN o sc r0 k
theorem gN_le (o n : Nat) : gN o n ≤ 3 + 5 * n := by unfold gN; split <;> (try split) <;> omega
theorem it_start {o : Nat} {sc : Int} {r0 : Nat} (h : r0 ≤ 1000) : marks r0 = marks (itN o sc r0 ([] : List Int).length) ∧ itN o sc r0 ([] : List Int).length ≤ 1000 := ⟨rfl, h⟩
theorem it_yes {o : Nat} {sc : Int} {r0 : Nat} {pre : List Int} {kN : Int} (h : ((marks (itN o sc r0 pre.length)).length : Int) ≤ sc) (hs : sc ≤ 100) :
    marks (gN o (itN o sc r0 pre.length)) = marks (itN o sc r0 (pre ++ [kN]).length) ∧ itN o sc r0 (pre ++ [kN]).length ≤ 1000 := by
  have e1 : (pre ++ [kN]).length = pre.length + 1 := by simp
  have e : itN o sc r0 (pre.length + 1) = gN o (itN o sc r0 pre.length) := by rw [itN, if_pos h]
  rw [e1, e]
  refine ⟨rfl, ?_⟩
  rw [marks_len] at h
  have := gN_le o (itN o sc r0 pre.length)
  omega
theorem it_no {o : Nat} {sc : Int} {r0 : Nat} {pre : List Int} {kN : Int} (h : ¬ ((marks (itN o sc r0 pre.length)).length : Int) ≤ sc) (hb : itN o sc r0 pre.length ≤ 1000) :
    marks (itN o sc r0 pre.length) = marks (itN o sc r0 (pre ++ [kN]).length) ∧ itN o sc r0 (pre ++ [kN]).length ≤ 1000 := by
  have e1 : (pre ++ [kN]).length = pre.length + 1 := by simp
  have e : itN o sc r0 (pre.length + 1) = itN o sc r0 pre.length := by rw [itN, if_neg h]
  rw [e1, e]
  exact ⟨rfl, hb⟩
noncomputable def toldF (o : Nat) (z c left : Int) : Int := (z + 1) * c + 1 - ((marks (itN o (z * c) ((z + 1) * left + 1).toNat 12)).length : Int)
theorem told_start {o : Nat} {z c : Int} : ([] : List Int) = ([] : List Int).map (toldF o z c) ∧ ([] : List Int).length = ([] : List Int).length := ⟨rfl, rfl⟩
theorem told_step {o : Nat} {z c kN : Int} {pre told : List Int} (h : told = pre.map (toldF o z c)) (h2 : told.length = pre.length) :
    told ++ [(z + 1) * c + 1 - ((marks (itN o (z * c) ((z + 1) * kN + 1).toNat 12)).length : Int)] = (pre ++ [kN]).map (toldF o z c) ∧
    (told ++ [(z + 1) * c + 1 - ((marks (itN o (z * c) ((z + 1) * kN + 1).toNat 12)).length : Int)]).length = (pre ++ [kN]).length := by
  refine ⟨by rw [h, List.map_append]; rfl, by simp [h2]⟩
theorem mulqR {prog : Program} {w : World} {A : Around} {Q E : Value → Shared → Prop} {s : Shared} {z k : Int} {t u : Tok} (hz : 1 ≤ z ∧ z ≤ 4) (h0 : 0 ≤ k) (h1 : k ≤ 100)
    (h : ∀ t' k', (marks ((z + 1) * k + 1).toNat).length ≤ 1000 → ((z + 1) * k + 1).toNat ≤ 1000 → Q (.str (marks ((z + 1) * k + 1).toNat) t') { s with toks := k' }) :
    wpAny (model prog w) A (binaryOp .Mult (.str (Str.ofString "\"") t) (.int ((z + 1) * k + 1) u)) Q E s := by
  have hb : 0 ≤ (z + 1) * k + 1 ∧ (z + 1) * k + 1 ≤ 1000 := by
    have hz4 : z = 1 ∨ z = 2 ∨ z = 3 ∨ z = 4 := by omega
    rcases hz4 with rfl | rfl | rfl | rfl <;> omega
  exact mulq (k := ((z + 1) * k + 1).toNat) (by omega) (by omega) fun t' k' _ => h t' k' (by rw [marks_len]; omega) (by omega)
theorem marks_le {n : Nat} (h : n ≤ 1000) : (marks n).length ≤ 1000 := by rw [marks_len]; exact h
theorem jo_start {z : Int} {r0 : List Int} (h : r0.length ≤ 9) : [] ++ jo z r0 0 = jo z r0 0 ∧ ([] : List Int).length + r0.length ≤ 9 := ⟨rfl, by simpa using h⟩
theorem fmods {x : Int} {n : Nat} (hn : 0 < n) : ∃ k : Nat, k < n ∧ Int.fmod x (n : Int) = (k : Int) := by
  have h1 := Int.fmod_nonneg_of_pos x (show (0 : Int) < (n : Int) by omega)
  have h2 := Int.fmod_lt_of_pos x (show (0 : Int) < (n : Int) by omega)
  exact ⟨(Int.fmod x n).toNat, by omega, by omega⟩
noncomputable def good03 (o : Nat) (z c : Int) : Bool := decide (2 ≤ c) && decide (c ≤ 9) && decide (z * c ≤ 100) && decide (((rangeKs 0 (c - 0).toNat).map (toldF o z c)).reverse = jo z (rangeKs 1 (c + 1 - 1).toNat) 0)
theorem all0 : ((List.range 8).all fun k => good03 0 1 (2 + (k : Int))) = true := by decide +kernel
theorem all1 : ((List.range 7).all fun k => good03 1 2 (2 + (k : Int))) = true := by decide +kernel
theorem all2 : ((List.range 2).all fun k => good03 2 4 (2 + (k : Int))) = true := by decide +kernel
theorem good_of {m : Nat} {o : Nat} {z : Int} (h : ((List.range m).all fun k => good03 o z (2 + (k : Int))) = true) (hm : 0 < m) (x : Int) : good03 o z (2 + Int.fmod x (m : Int)) = true := by
  obtain ⟨k, hk, e⟩ := fmods (x := x) hm
  rw [e]
  exact List.all_eq_true.mp h k (List.mem_range.mpr hk)
theorem plain03 (o x : Int) (h : o = 0 ∨ o = 1 ∨ o = 2) : good03 o.toNat (2 ^ o.toNat) (2 + Int.fmod x ([8, 7, 2].getD o.toNat 0)) = true := by
  rcases h with rfl | rfl | rfl
  · exact good_of all0 (by decide) x
  · exact good_of all1 (by decide) x
  · exact good_of all2 (by decide) x
theorem good_parts {o : Nat} {z c : Int} (h : good03 o z c = true) : (2 ≤ c ∧ c ≤ 9) ∧ z * c ≤ 100 ∧ ((rangeKs 0 (c - 0).toNat).map (toldF o z c)).reverse = jo z (rangeKs 1 (c + 1 - 1).toNat) 0 := by
  unfold good03 at h
  simp only [Bool.and_eq_true, decide_eq_true_eq] at h
  exact ⟨⟨h.1.1.1, h.1.1.2⟩, h.1.2, h.2⟩
theorem tab_ne {o : Int} (h : o = 0 ∨ o = 1 ∨ o = 2) : ([8, 7, 2] : List Int).getD o.toNat 0 ≠ 0 := by rcases h with rfl | rfl | rfl <;> decide
end Mine

end
section
open PySem PySem.W PyProof.Rows
set_option Elab.async false
set_option maxRecDepth 100000
set_option linter.unusedVariables false
namespace Mine
theorem grownA {w : World} {mean : ExcName → Option Value} {mg mb : Str → Option Value} {news : List (Addr × Obj)} (n : Nat) (o sd : Int) (t t1 t2 : Tok) :
  ∀ (dp un : Nat) (gd : Option (List Code)) (cn : Str) (cs : Scope) (ad : Addr) (ccd : Value) (cl : List (Str × Addr)) (outer : List Env) (A₀ : Around) (base h₀ : Heap) (L : Addr) (m : Str → Option Value) (s : Shared) (Q E : Value → Shared → Prop),
    Below A₀ base outer h₀ → Fr h₀ L s.heap m → (K w.params).In h₀ → News h₀ L s.heap news → Top q01 (looseW q01 loose01) mean mg mb h₀ → cs.kind = .function →
    (n ≤ 1000 ∧ (o = 0 ∨ o = 1 ∨ o = 2)) → dp + 3 < recursionLimit → un + 24 < cLine →
    (∀ (h' : Heap) (tk : Nat) (t : Tok), Fr h₀ L h' m → News h₀ L h' news → Q (.str (marks (gN o.toNat n)) t) { s with heap := h', toks := tk }) →
      wpAny (model PySem.Challenge.rw_tr0050_03.prog w) (ktrTop dp un gd cn cs L ad ccd cl outer) (call (.ref 177) [.str (marks n) t, .int o t1, .int sd t2]) Q E s := by
  intro dp un gd cn cs ad ccd cl outer A₀ base h₀ L m s Q E x1 x2 x3 x4 x5 x6 x7 x8 x9 x10
  obtain ⟨hn, ho⟩ := x7
  rcases ho with rfl | rfl | rfl
  · exact grown0 n sd t t1 t2 dp un gd cn cs ad ccd cl outer A₀ base h₀ L m s Q E x1 x2 x3 x4 x5 x6 hn x8 x9 x10
  · exact grown1 n sd t t1 t2 dp un gd cn cs ad ccd cl outer A₀ base h₀ L m s Q E x1 x2 x3 x4 x5 x6 hn x8 x9 x10
  · exact grown2 n sd t t1 t2 dp un gd cn cs ad ccd cl outer A₀ base h₀ L m s Q E x1 x2 x3 x4 x5 x6 hn x8 x9 x10
end Mine

end
section
open PySem PySem.W PyProof.Rows
set_option Elab.async false
set_option maxRecDepth 100000
set_option linter.unusedVariables false
namespace Mine
theorem ints3 (a b c : Int) (t1 t2 t3 : Tok) : IntsAre [.int a t1, .int b t2, .int c t3] [a, b, c] := .cons _ _ (.cons _ _ (.cons _ _ .nil))
theorem fill3 (l : List Int) : ∃ a b c : Int, (l.take 3).map (fun k => k.fmod 1000000) ++ List.drop ((((l.take 3).map (fun k => k.fmod 1000000)).length : Nat) : Int).toNat [1, 4, 0] = [a, b, c] := by
  rw [Int.toNat_natCast]
  rcases l with _ | ⟨a, l⟩
  · exact ⟨_, _, _, rfl⟩
  rcases l with _ | ⟨b, l⟩
  · exact ⟨_, _, _, rfl⟩
  rcases l with _ | ⟨c, l⟩
  · exact ⟨_, _, _, rfl⟩
  · exact ⟨_, _, _, rfl⟩
local macro_rules | `(tactic| walk_at "subscriptTail Name Slice ref ref") => `(tactic| (k_here; (with_reducible show wpAny _ _ (subscriptTail _ (PySem.Expr.Slice (some _) none none _) (Value.ref _) (Value.ref _)) _ _ _); k_dflt (refine kmk_slice_ints (by k_asm) (by k_asm) (News.isList (by k_asm) (by k_mem)) (IsPart.int _ _) IsPart.none (ints3 _ _ _ _ _ _) (kmk_from (ints3 _ _ _ _ _ _) (Int.natCast_nonneg _)) (List.length_drop ..) ?_ (by with_unfolding_all rfl) (by intro _; with_unfolding_all rfl) (by exact Nat.le_of_ble_eq_true rfl)); intro D' ws' h' F' N' l1 hI' hC' hL'; (try k_lt l1); (try k_sweep)))
theorem pow2g {prog : Program} {w : World} {A : Around} {Q E : Value → Shared → Prop} {s : Shared} {t u : Tok} {n : Int} (h0 : n = 0 ∨ n = 1 ∨ n = 2) (h : Q (.int (2 ^ n.toNat) s.toks) { s with toks := s.toks + 1 }) :
    wpAny (model prog w) A (binaryOp .Pow (.int 2 t) (.int n u)) Q E s := pow_int_small (by omega) (by omega) (by decide) h
local macro_rules | `(tactic| walk_at "binaryOp Pow int int") => `(tactic| (k_here; k_dflt (refine pow2g (by assumption) ?_)))
theorem fmod3 (k : Int) : Int.fmod k 3 = 0 ∨ Int.fmod k 3 = 1 ∨ Int.fmod k 3 = 2 := by
  have h1 := Int.fmod_nonneg_of_pos k (show (0 : Int) < 3 by decide)
  have h2 := Int.fmod_lt_of_pos k (show (0 : Int) < 3 by decide)
  omega
local macro_rules | `(tactic| walk_at "call builtin:list.pop") => `(tactic| (k_here; (with_reducible show wpAny _ _ (call (Value.builtin _) [Value.ref _, Value.int _ _]) _ _ _); k_dflt (refine' popAt ?zF ?zN ?zU ?zI ?zL ?zZ ?_; (case zF => k_asm); (case zN => k_asm); (case zU => k_upd); (case zI => with_reducible assumption); (case zL => exact jo_ix (ne_of_dec (by assumption))); (case zZ => omega)); (intro h' t' F' N' hI'; (try dsimp only [List.nil_append, List.cons_append] at N'))))
theorem drop3 {h₀ h : Heap} {L : Addr} {a b c d e f : Addr × Obj} {r : List (Addr × Obj)} (N : News h₀ L h (a :: b :: c :: d :: e :: f :: r)) : News h₀ L h [a, c, f] := fun p hp => N p (by
  rcases List.mem_cons.mp hp with rfl | hp
  · exact .head _
  rcases List.mem_cons.mp hp with rfl | hp
  · exact .tail _ (.tail _ (.head _))
  rcases List.mem_cons.mp hp with rfl | hp
  · exact .tail _ (.tail _ (.tail _ (.tail _ (.tail _ (.head _)))))
  · exact absurd hp List.not_mem_nil)
structure StopMarkB : Prop where
local macro_rules | `(tactic| walk_at "exec Assign") => `(tactic| (k_here; (rename StopMarkB => hm'); (clear hm'); (with_reducible show wpAny _ _ (exec (Stmt.Assign [Expr.Name (Str.ofString "count") _] _ _) _) _ _ _); with_reducible refine Stop.intro ?_))
structure StopMarkC : Prop where
local macro_rules | `(tactic| walk_at "exec Assign") => `(tactic| (k_here; (rename StopMarkC => hm'); (clear hm'); (with_reducible show wpAny _ _ (exec (Stmt.Assign [Expr.Name (Str.ofString "ring") _] _ _) _) _ _ _); with_reducible refine Stop.intro ?_))
structure StopMark0 : Prop where
local macro_rules | `(tactic| walk_at "exec Assign") => `(tactic| (k_here; (rename StopMark0 => hm'); (clear hm'); (with_reducible show wpAny _ _ (exec (Stmt.Assign [Expr.Name (Str.ofString "size") _] _ _) _) _ _ _); with_reducible refine Stop.intro ?_))
structure StopMarkW : Prop where
local macro_rules | `(tactic| walk_at "exec") => `(tactic| ((with_reducible show wpAny _ _ (exec (Stmt.While _ _ _ _) _) _ _ _); (rename StopMarkW => hm'); (clear hm'); with_reducible refine Stop.intro ?_))
local macro_rules | `(tactic| walk_at "binaryOp Mult str int") => `(tactic| (k_here; (with_reducible show wpAny _ _ (binaryOp Operator.Mult (Value.str (Str.ofString "\"") _) (Value.int _ _)) _ _ _); k_dflt (refine mulqR (by assumption) (by omega) (by omega) ?_); intro tm9 km9 hm9 hm8))
structure StopMark5 : Prop where
local macro_rules | `(tactic| walk_at "exec For Name Call cons nil") => `(tactic| (k_here; (with_reducible show wpAny _ _ (exec (Stmt.For (Expr.Name (Str.ofString "left") _) _ _ _ _) _) _ _ _); (rename StopMark5 => hm'); (clear hm'); with_reducible refine Stop.intro ?_))
structure StopMark1 : Prop where
local macro_rules | `(tactic| walk_at "pyIter ref") => `(tactic| (k_here; (rename StopMark1 => hm'); (clear hm'); with_reducible refine Stop.intro ?_))
local macro_rules | `(tactic| walk_at "call ref") => `(tactic| (k_here; (with_reducible show wpAny _ _ (call (Value.ref 177) _) _ _ _); k_dflt ((refine grownA _ _ _ _ _ _ _ _ _ _ _ _ _ _ _ _ _ _ _ _ _ _ _ (by k_asm) (by k_asm) (by k_asm) (by k_asm) (by k_asm) (by first | exact rfl | assumption) (And.intro (by assumption) (by assumption)) (by first | ktr_room | decide) (by first | ktr_units | decide) ?_); intro h9 tk9 t9 F9 N9; (try dsimp only))))
set_option maxHeartbeats 6000000 in
theorem hc : WalkO q01 loose01 (XL q01 []) (Hook.says HK) PySem.Challenge.rw_tr0050_03.row.toRowW ⟨S "law", fpar21, fbody21, fsco21, ⟨79, 0, 100, 29⟩⟩ [] fun f vs => PySem.call f vs := by
  unfold WalkO
  unfold HK
  k_go0
  have hmark0 : StopMark0 := ⟨⟩
  k_steps
  with_reducible rename IntsAre _ (_ ++ _) => hints
  rename List Int => script
  obtain ⟨a, b, c, h3⟩ := fill3 script
  have h3l := congrArg List.length h3
  generalize (List.map (fun k' => Int.fmod k' 1000000) (List.take 3 script) ++ List.drop (((List.map (fun k' => Int.fmod k' 1000000) (List.take 3 script)).length : Nat) : Int).toNat [1, 4, 0]) = N3 at *
  have h3l : N3.length = 3 := h3l
  have ho := fmod3 (N3.getD (Int.toNat 0) 0)
  with_reducible rename Fr _ _ _ _ => hF
  generalize hoE : Int.fmod (N3.getD (Int.toNat 0) 0) 3 = oE at ho hF
  have htab := tab_ne ho
  have hgood := plain03 oE (N3.getD (Int.toNat 1) 0) ho
  have hmarkB : StopMarkB := ⟨⟩
  refine stopOut ?_
  k_steps
  have hz1 : 1 ≤ (2 : Int) ^ oE.toNat ∧ (2 : Int) ^ oE.toNat ≤ 4 := by rcases ho with rfl | rfl | rfl <;> decide
  with_reducible rename Fr _ _ _ _ => hF2
  generalize hzE : (2 : Int) ^ oE.toNat = zE at hz1 hF2 hgood
  have hmarkC : StopMarkC := ⟨⟩
  refine stopOut ?_
  k_steps
  all_goals first | (exfalso; exact htab (by assumption)) | skip
  with_reducible rename Fr _ _ _ _ => hF3
  generalize hcE : 2 + Int.fmod (N3.getD (Int.toNat 1) 0) ([8, 7, 2].getD oE.toNat 0) = cE at hF3 hgood
  obtain ⟨hcb, hzc, hplain⟩ := good_parts hgood
  have hmarkW : StopMarkW := ⟨⟩
  refine stopOut ?_
  k_steps
  unfold Stop
  k_with "state" => first | exact jo_start (by rw [rangeKs_length]; omega) | exact jo_step (by assumption) (by assumption) (by assumption)
  k_with "measure" => exact jo_less (by assumption)
  have hmark5 : StopMark5 := ⟨⟩
  refine stopIn (stopOut ?_)
  k_while_given ["ring!"] (fun ring₀ script ring gone place => gone ++ jo zE ring place = jo zE ring₀ 0 ∧ gone.length + ring.length ≤ 9) (fun ring₀ script ring gone place => ring.length) "ring" "gone" "place"
  k_steps
  all_goals first | (exfalso; exact jo_absurd (by assumption) (by assumption)) | skip
  with_reducible rename (_ ++ jo _ _ _ = _) => hj
  have hg := jo_end hj (by assumption)
  with_reducible rename News _ _ _ _ => hN
  replace hN := drop3 hN
  clear hj hgood hzE hoE
  have hmark1 : StopMark1 := ⟨⟩
  refine stopOut ?_
  k_steps
  unfold Stop
  k_with "state" => first | exact told_start | exact told_step (by assumption) (by assumption) | exact it_start (by omega) | exact it_yes (by assumption) (by omega) | exact it_no (by assumption) (by assumption)
  k_state_given ["count"] (fun count pre told => told = pre.map (toldF oE.toNat zE count) ∧ told.length = pre.length) "told"
  · have hmark1 : StopMark1 := ⟨⟩
    refine stopIn (stopOut ?_)
    k_steps
    unfold Stop
    k_state_given ["count", "left"] (fun count left pre row => row = marks (itN oE.toNat (zE * count) ((zE + 1) * left + 1).toNat pre.length) ∧ itN oE.toNat (zE * count) ((zE + 1) * left + 1).toNat pre.length ≤ 1000) "row"
    · with_reducible rename (_ = marks (itN _ _ _ _)) => hrow
      subst hrow
      with_reducible rename (itN _ _ _ _ ≤ 1000) => hb
      have hml := marks_le hb
      refine stopIn (stopOut ?_)
      k_steps
      all_goals (fail "open")
    · dsimp only
      with_reducible rename (_ = marks (itN _ _ _ _)) => hrow
      have hrow2 : _ = marks (itN _ _ _ 12) := hrow
      clear hrow
      subst hrow2
      with_reducible rename (itN _ _ _ _ ≤ 1000) => hb
      have hb2 : itN _ _ _ 12 ≤ 1000 := hb
      clear hb
      have hml := marks_le hb2
      refine stopIn (stopOut ?_)
      k_steps
      all_goals (fail "open")
  · dsimp only
    k_steps
    all_goals (fail "open")
end Mine

end
section
open PySem PySem.W PyProof.Rows
set_option maxRecDepth 100000
namespace Mine
set_option maxHeartbeats 2000000 in
theorem cw (hc : WalkO q01 loose01 (XL q01 []) (Hook.says HK) PySem.Challenge.rw_tr0050_03.row.toRowW ⟨S "law", fpar21, fbody21, fsco21, ⟨79, 0, 100, 29⟩⟩ [] fun f vs => PySem.call f vs) : PySem.Challenge.rw_tr0050_03.Holds := by
  w_on; o_law
  refine holds_open (q := q01) (loose := loose01) (Xt := Xt01) (XP := XL q01 []) (Yf := Hook.obs HK) (Ya := Hook.val HK) (YP := Hook.says HK) (N := 30000) head (Hook.of HK) (Hook.keeps HK) (fun s e => xl_of s (Bool.and_eq_true_iff.mp e).1) XL.keeps (by rfl) (by rfl) (by rfl) (fun s e => recFacts_of (Bool.and_eq_true_iff.mp e).2) (by first | rfl | fail "open_line: no head takes a call that writes beside a table") (by first | assumption | decide +kernel) (by decide +kernel) ⟨rfl, rfl, rfl, rfl, rfl, by decide +kernel⟩ ?hw hc
  w_witness2
end Mine
end
theorem PySem.Challenge.cw_tr0050_03_holds : PySem.Challenge.rw_tr0050_03.Holds := by
  exact Mine.cw Mine.hc

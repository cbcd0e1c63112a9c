import PyProof.Rows.All
import Wide.All
import OpenK.AllK
import Wide.FinOn
import Lean
import PySem.Challenge.RW_tr0050_01
section
open PySem PySem.W PyProof.Rows
set_option Elab.async false
set_option maxRecDepth 100000
set_option linter.unusedVariables false
namespace Mine
noncomputable abbrev pw := PySem.Challenge.pw_tr0050_01
noncomputable abbrev S (x : String) : PySem.Str := PySem.Str.ofString x
noncomputable abbrev H (P : Params) (x : PySem.Str) : Int := PyData.keyHash P x
noncomputable abbrev LED (P : Params) : Bool := !P.followText "set-order"
noncomputable def fdefn (i : Nat) : Arguments × List Stmt × Scope := match (pw.main.body.drop i).take 1 with
  | [.FunctionDef _ a b _ _ _ s _ _ _] => (a, b, s)
  | _ => (default, [], default)
noncomputable def b3pairs : List (Int × PySem.Str) := match (pw.main.body.drop 13).take 1 with
  | [.Assign _ (.Dict ks vs _) _] => (ks.zip vs).filterMap (fun q => match q with | (some (.Constant (.int i) _ _), .Constant (.str x) _ _) => some (i, x) | _ => none)
  | _ => []
noncomputable def entsAt (k : Nat) : Nat → List (Int × PySem.Str) → List DictEntry
  | _, [] => []
  | t, (i, x) :: r => ⟨i, .int i t, .str x (t + 1)⟩ :: entsAt k (t + k) r
noncomputable def b3ents : List DictEntry := entsAt 3 469 (b3pairs.take 646) ++ entsAt 2 2407 (b3pairs.drop 646)
noncomputable def b1ents : List (Int × Value) := [(65024, (.int 65024 418)), (65025, (.int 65025 419)), (65026, (.int 65026 420)), (65027, (.int 65027 421)), (65028, (.int 65028 422)), (65029, (.int 65029 423)), (6150, (.int 6150 404)), (65030, (.int 65030 424)), (65031, (.int 65031 425)), (65032, (.int 65032 426)), (65033, (.int 65033 427)), (6155, (.int 6155 405)), (6156, (.int 6156 406)), (6157, (.int 6157 407)), (8203, (.int 8203 408)), (8204, (.int 8204 409)), (8205, (.int 8205 410)), (65034, (.int 65034 428)), (65035, (.int 65035 429)), (65036, (.int 65036 430)), (65037, (.int 65037 431)), (65038, (.int 65038 432)), (65039, (.int 65039 433)), (173, (.int 173 402)), (847, (.int 847 403)), (8288, (.int 8288 411)), (65279, (.int 65279 412))]
noncomputable abbrev fpar4 : Arguments := Subtype.val (p := fun x => (fdefn 4).1 = x) ⟨_, by conv => lhs; whnf⟩
noncomputable abbrev fbody4 : List Stmt := Subtype.val (p := fun x => (fdefn 4).2.1 = x) ⟨_, by conv => lhs; whnf⟩
noncomputable abbrev fsco4 : Scope := Subtype.val (p := fun x => (fdefn 4).2.2 = x) ⟨_, by conv => lhs; whnf⟩
noncomputable abbrev fpar9 : Arguments := Subtype.val (p := fun x => (fdefn 9).1 = x) ⟨_, by conv => lhs; whnf⟩
noncomputable abbrev fbody9 : List Stmt := Subtype.val (p := fun x => (fdefn 9).2.1 = x) ⟨_, by conv => lhs; whnf⟩
noncomputable abbrev fsco9 : Scope := Subtype.val (p := fun x => (fdefn 9).2.2 = x) ⟨_, by conv => lhs; whnf⟩
noncomputable abbrev fpar12 : Arguments := Subtype.val (p := fun x => (fdefn 12).1 = x) ⟨_, by conv => lhs; whnf⟩
noncomputable abbrev fbody12 : List Stmt := Subtype.val (p := fun x => (fdefn 12).2.1 = x) ⟨_, by conv => lhs; whnf⟩
noncomputable abbrev fsco12 : Scope := Subtype.val (p := fun x => (fdefn 12).2.2 = x) ⟨_, by conv => lhs; whnf⟩
noncomputable abbrev fpar14 : Arguments := Subtype.val (p := fun x => (fdefn 14).1 = x) ⟨_, by conv => lhs; whnf⟩
noncomputable abbrev fbody14 : List Stmt := Subtype.val (p := fun x => (fdefn 14).2.1 = x) ⟨_, by conv => lhs; whnf⟩
noncomputable abbrev fsco14 : Scope := Subtype.val (p := fun x => (fdefn 14).2.2 = x) ⟨_, by conv => lhs; whnf⟩
noncomputable abbrev fpar16 : Arguments := Subtype.val (p := fun x => (fdefn 16).1 = x) ⟨_, by conv => lhs; whnf⟩
noncomputable abbrev fbody16 : List Stmt := Subtype.val (p := fun x => (fdefn 16).2.1 = x) ⟨_, by conv => lhs; whnf⟩
noncomputable abbrev fsco16 : Scope := Subtype.val (p := fun x => (fdefn 16).2.2 = x) ⟨_, by conv => lhs; whnf⟩
noncomputable abbrev fpar17 : Arguments := Subtype.val (p := fun x => (fdefn 17).1 = x) ⟨_, by conv => lhs; whnf⟩
noncomputable abbrev fbody17 : List Stmt := Subtype.val (p := fun x => (fdefn 17).2.1 = x) ⟨_, by conv => lhs; whnf⟩
noncomputable abbrev fsco17 : Scope := Subtype.val (p := fun x => (fdefn 17).2.2 = x) ⟨_, by conv => lhs; whnf⟩
noncomputable abbrev fpar18 : Arguments := Subtype.val (p := fun x => (fdefn 18).1 = x) ⟨_, by conv => lhs; whnf⟩
noncomputable abbrev fbody18 : List Stmt := Subtype.val (p := fun x => (fdefn 18).2.1 = x) ⟨_, by conv => lhs; whnf⟩
noncomputable abbrev fsco18 : Scope := Subtype.val (p := fun x => (fdefn 18).2.2 = x) ⟨_, by conv => lhs; whnf⟩
noncomputable abbrev fpar19 : Arguments := Subtype.val (p := fun x => (fdefn 19).1 = x) ⟨_, by conv => lhs; whnf⟩
noncomputable abbrev fbody19 : List Stmt := Subtype.val (p := fun x => (fdefn 19).2.1 = x) ⟨_, by conv => lhs; whnf⟩
noncomputable abbrev fsco19 : Scope := Subtype.val (p := fun x => (fdefn 19).2.2 = x) ⟨_, by conv => lhs; whnf⟩
noncomputable abbrev fpar20 : Arguments := Subtype.val (p := fun x => (fdefn 20).1 = x) ⟨_, by conv => lhs; whnf⟩
noncomputable abbrev fbody20 : List Stmt := Subtype.val (p := fun x => (fdefn 20).2.1 = x) ⟨_, by conv => lhs; whnf⟩
noncomputable abbrev fsco20 : Scope := Subtype.val (p := fun x => (fdefn 20).2.2 = x) ⟨_, by conv => lhs; whnf⟩
noncomputable abbrev fpar21 : Arguments := Subtype.val (p := fun x => (fdefn 21).1 = x) ⟨_, by conv => lhs; whnf⟩
noncomputable abbrev fbody21 : List Stmt := Subtype.val (p := fun x => (fdefn 21).2.1 = x) ⟨_, by conv => lhs; whnf⟩
noncomputable abbrev fsco21 : Scope := Subtype.val (p := fun x => (fdefn 21).2.2 = x) ⟨_, by conv => lhs; whnf⟩
noncomputable abbrev o2s2 (P : Params) : Obj := ⟨.none, none, (.dict #[⟨H P (S "\x69mport.loaded._sre"), .str (S "\x69mport.loaded._sre") 183, (.bool true)⟩, ⟨H P (S "class._frozen_importlib.BuiltinImporter"), .str (S "class._frozen_importlib.BuiltinImporter") 185, (.ref 14)⟩, ⟨H P (S "watched.\x69mport"), .str (S "watched.\x69mport") 206, (.ref 18)⟩, ⟨H P (S "class._frozen_importlib.ModuleSpec"), .str (S "class._frozen_importlib.ModuleSpec") 216, (.ref 22)⟩, ⟨H P (S "sys.modules.booked-epoch"), .str (S "sys.modules.booked-epoch") 245, (.int 3 0)⟩, ⟨H P (S "\x69mport.later-laid._sre"), .str (S "\x69mport.later-laid._sre") 270, (.bool true)⟩, ⟨H P (S "watched.library"), .str (S "watched.library") 272, (.ref 27)⟩, ⟨H P (S "watched.library-objects"), .str (S "watched.library-objects") 0, (.str (PySem.Str.mk #[12]) 0)⟩, ⟨H P (S "watched.library-deep._sre"), .str (S "watched.library-deep._sre") 273, (.str (PySem.Str.mk #[4, 0, 0, 11, 4, 0, 0, 11, 4, 0, 0, 3, 4, 0, 0, 11, 8, 4, 100, 105, 99, 116, 2]) 0)⟩, ⟨H P (S "type.__subclasses__.Exception.0"), .str (S "type.__subclasses__.Exception.0") 300, (.int 41 0)⟩, ⟨H P (S "type.__subclasses__.Exception.n"), .str (S "type.__subclasses__.Exception.n") 301, (.int 1 0)⟩] 11), #[]⟩
noncomputable abbrev o3s21 (P : Params) : Obj := ⟨(.type "dict"), none, (.dict #[⟨H P (S "__name__"), .str (S "__name__") 165, (.str (S "law_tr0050_01") 2428)⟩, ⟨H P (S "__doc__"), .str (S "__doc__") 166, .none⟩, ⟨H P (S "__package__"), .str (S "__package__") 167, .none⟩, ⟨H P (S "__loader__"), .str (S "__loader__") 168, (.builtin "__main__.__loader__#opaque")⟩, ⟨H P (S "__spec__"), .str (S "__spec__") 169, .none⟩, ⟨H P (S "__annotations__"), .str (S "__annotations__") 170, (.ref 6)⟩, ⟨H P (S "__builtins__"), .str (S "__builtins__") 171, (.ref 4)⟩, ⟨H P (S "__file__"), .str (S "__file__") 173, (.str (S "/claim/cut.py") 172)⟩, ⟨H P (S "__cached__"), .str (S "__cached__") 174, .none⟩, ⟨H P (S "_sre"), .str (S "_sre") 275, (.ref 12)⟩, ⟨H P (S "Error"), .str (S "Error") 303, (.ref 41)⟩, ⟨H P (S "error_reply"), .str (S "error_reply") 319, (.ref 54)⟩, ⟨H P (S "parse257"), .str (S "parse257") 330, (.ref 63)⟩, ⟨H P (S "_twin_re_1"), .str (S "_twin_re_1") 348, (.ref 68)⟩, ⟨H P (S "_twin_re_2"), .str (S "_twin_re_2") 390, (.ref 73)⟩, ⟨H P (S "CRLF"), .str (S "CRLF") 392, (.str (PySem.Str.mk #[13, 10]) 391)⟩, ⟨H P (S "quotedata"), .str (S "quotedata") 399, (.ref 80)⟩, ⟨H P (S "b1_set"), .str (S "b1_set") 461, (.ref 88)⟩, ⟨H P (S "in_table_b1"), .str (S "in_table_b1") 468, (.ref 98)⟩, ⟨H P (S "b3_exceptions"), .str (S "b3_exceptions") 2419, (.ref 99)⟩, ⟨H P (S "map_table_b3"), .str (S "map_table_b3") 2427, (.ref 144)⟩, ⟨H P (S "_law_unseen"), .str (S "_law_unseen") 2437, (.ref 151)⟩, ⟨H P (S "_law_lasting"), .str (S "_law_lasting") 2443, (.ref 156)⟩, ⟨H P (S "_law_signs"), .str (S "_law_signs") 2455, (.ref 163)⟩, ⟨H P (S "_law_walk"), .str (S "_law_walk") 2471, (.ref 170)⟩, ⟨H P (S "_law_hand"), .str (S "_law_hand") 2477, (.ref 175)⟩, ⟨H P (S "law"), .str (S "law") 2483, (.ref 180)⟩] 27), #[]⟩
noncomputable abbrev o6 (P : Params) : Obj := ⟨(.type "dict"), none, (.dict #[] 0), #[]⟩
noncomputable abbrev o11 (P : Params) : Obj := ⟨(.type "dict"), none, (.dict #[⟨H P (S "__name__"), .str (S "__name__") 247, (.str (S "_sre") 246)⟩, ⟨H P (S "__doc__"), .str (S "__doc__") 248, .none⟩, ⟨H P (S "__package__"), .str (S "__package__") 250, (.str (S "") 249)⟩, ⟨H P (S "__loader__"), .str (S "__loader__") 251, (.builtin "off-the-table:_sre.__loader__:shared#opaque")⟩, ⟨H P (S "__spec__"), .str (S "__spec__") 252, (.builtin "off-the-table:_sre.__spec__:shared#opaque")⟩, ⟨H P (S "compile"), .str (S "compile") 253, (.builtin "_sre.compile")⟩, ⟨H P (S "template"), .str (S "template") 254, (.builtin "off-the-table:_sre.template:shared#opaque")⟩, ⟨H P (S "getcodesize"), .str (S "getcodesize") 255, (.builtin "off-the-table:_sre.getcodesize:shared#opaque")⟩, ⟨H P (S "ascii_iscased"), .str (S "ascii_iscased") 256, (.builtin "off-the-table:_sre.ascii_iscased:shared#opaque")⟩, ⟨H P (S "unicode_iscased"), .str (S "unicode_iscased") 257, (.builtin "off-the-table:_sre.unicode_iscased:shared#opaque")⟩, ⟨H P (S "ascii_tolower"), .str (S "ascii_tolower") 258, (.builtin "off-the-table:_sre.ascii_tolower:shared#opaque")⟩, ⟨H P (S "unicode_tolower"), .str (S "unicode_tolower") 259, (.builtin "off-the-table:_sre.unicode_tolower:shared#opaque")⟩, ⟨H P (S "MAGIC"), .str (S "MAGIC") 261, (.int 20230612 260)⟩, ⟨H P (S "CODESIZE"), .str (S "CODESIZE") 263, (.int 4 262)⟩, ⟨H P (S "MAXREPEAT"), .str (S "MAXREPEAT") 265, (.int 4294967295 264)⟩, ⟨H P (S "MAXGROUPS"), .str (S "MAXGROUPS") 267, (.int 1073741823 266)⟩, ⟨H P (S "copyright"), .str (S "copyright") 269, (.str (S " SRE 2.2.2 Copyright (c) 1997-2002 by Secret Labs AB ") 268)⟩] 17), #[]⟩
noncomputable abbrev o12 (P : Params) : Obj := ⟨(.type "module"), (some 11), .plain, #[]⟩
noncomputable abbrev o32 (P : Params) : Obj := ⟨(.type "tuple"), none, (.seq #[(.type "Exception")] 0), #[]⟩
noncomputable abbrev o39 (P : Params) : Obj := ⟨(.type "tuple"), none, (.seq #[] 0), #[]⟩
noncomputable abbrev o40 (P : Params) : Obj := ⟨(.type "dict"), none, (.dict #[⟨H P (S "__module__"), .str (S "__module__") 291, (.str (S "cpy313.ftplib") 282)⟩, ⟨H P (S "__firstlineno__"), .str (S "__firstlineno__") 295, (.int 3 294)⟩, ⟨H P (S "__static_attributes__"), .str (S "__static_attributes__") 296, (.ref 39)⟩, ⟨H P (S "__weakref__"), .str (S "__weakref__") 298, (.ref 42)⟩, ⟨H P (S "__doc__"), .str (S "__doc__") 299, .none⟩] 3), #[]⟩
noncomputable abbrev o41s3 (P : Params) : Obj := ⟨(.type "type"), none, (.cls { name := (S "Error"), bases := [(.type "Exception")], mro := [(.ref 41), (.type "Exception"), (.type "BaseException"), (.type "object")], ns := 40, qualname := (S "Error"), hasDict := true, slotNames := [], subclasses := [(.ref 54)], abstract := false, collection := none, hasDel := false }), #[(some (.ref 32)), none, (some (.str (S "Error") 284)), (some (.str (S "Error") 292)), (some (.builtin "Exception.__new__")), (some (.bool true))]⟩
noncomputable abbrev o42 (P : Params) : Obj := ⟨(.type "getset_descriptor"), none, (.fields #[(.str (S "__weakref__") 297), (.ref 41), (.builtin "ExceptionGroup.__weakref__"), .none]), #[]⟩
noncomputable abbrev o45 (P : Params) : Obj := ⟨(.type "tuple"), none, (.seq #[(.ref 41)] 0), #[]⟩
noncomputable abbrev o52 (P : Params) : Obj := ⟨(.type "tuple"), none, (.seq #[] 0), #[]⟩
noncomputable abbrev o53 (P : Params) : Obj := ⟨(.type "dict"), none, (.dict #[⟨H P (S "__module__"), .str (S "__module__") 311, (.str (S "cpy313.ftplib") 282)⟩, ⟨H P (S "__firstlineno__"), .str (S "__firstlineno__") 315, (.int 5 314)⟩, ⟨H P (S "__static_attributes__"), .str (S "__static_attributes__") 316, (.ref 52)⟩, ⟨H P (S "__doc__"), .str (S "__doc__") 317, .none⟩] 2), #[]⟩
noncomputable abbrev o54 (P : Params) : Obj := ⟨(.type "type"), none, (.cls { name := (S "error_reply"), bases := [(.ref 41)], mro := [(.ref 54), (.ref 41), (.type "Exception"), (.type "BaseException"), (.type "object")], ns := 53, qualname := (S "error_reply"), hasDict := true, slotNames := [], subclasses := [], abstract := false, collection := none, hasDel := false }), #[(some (.ref 45)), none, (some (.str (S "error_reply") 304)), (some (.str (S "error_reply") 312)), (some (.builtin "Exception.__new__")), (some (.bool true))]⟩
noncomputable abbrev o57 (P : Params) : Obj := ⟨(.type "tuple"), none, (.seq #[] 0), #[]⟩
noncomputable abbrev o58 (P : Params) : Obj := ⟨.none, none, (.fields #[]), #[]⟩
noncomputable abbrev o59 (P : Params) : Obj := ⟨(.type "tuple"), none, (.seq #[(.str (S "resp") 323), (.str (S "dirname") 324), (.str (S "i") 325), (.str (S "n") 326), (.str (S "c") 327)] 0), #[]⟩
noncomputable abbrev o60 (P : Params) : Obj := ⟨(.type "tuple"), none, (.seq #[] 0), #[]⟩
noncomputable abbrev o61 (P : Params) : Obj := ⟨.none, none, (.func { name := (S "parse257"), qualname := (S "parse257"), params := fpar4, body := .stmts fbody4, scope := fsco4, globals := 0, closure := [], defaults := .none, kwdefaults := .none, doc := .none, pyModule := .none, annotations := none, code := .none, closureTuple := .none, builtins := 0 }), #[]⟩
noncomputable abbrev o62 (P : Params) : Obj := ⟨(.type "code"), none, (.fields #[(.str (S "parse257") 320), (.str (S "parse257") 321), (.str (S "/claim/cut.py") 322), (.int 7 0), (.int 1 0), (.int 0 0), (.int 0 0), (.int 3 0), (.ref 57), (.bool true), (.int 276 0), (.ref 58), .none, (.ref 59), (.ref 60), (.ref 61), (.int 328 0), (.int 7 0), (.str (S "/claim/cut.py") 329)]), #[]⟩
noncomputable abbrev o63 (P : Params) : Obj := ⟨(.type "function"), none, (.func { name := (S "parse257"), qualname := (S "parse257"), params := fpar4, body := .stmts fbody4, scope := fsco4, globals := 3, closure := [], defaults := .none, kwdefaults := .none, doc := .none, pyModule := (.str (S "cpy313.ftplib") 282), annotations := none, code := (.ref 62), closureTuple := .none, builtins := 0 }), #[]⟩
noncomputable abbrev o67 (P : Params) : Obj := ⟨(.type "tuple"), none, (.seq #[(.int 14 0), (.int 4 0), (.int 0 0), (.int 1 0), (.int 1 0), (.int 6 0), (.int 1 0), (.int 16 0), (.int 46 0), (.int 1 0)] 0), #[]⟩
noncomputable abbrev o68 (P : Params) : Obj := ⟨(.type "re.Pattern"), none, (.fields #[(.str (PySem.Str.mk #[40, 63, 109, 41, 94, 92, 46]) 334), (.int 40 347), (.int 0 0), .none, .none, (.ref 67), (.int 0 0)]), #[]⟩
noncomputable abbrev o72 (P : Params) : Obj := ⟨(.type "tuple"), none, (.seq #[(.int 14 0), (.int 9 0), (.int 4 0), (.int 1 0), (.int 2 0), (.int 16 0), (.int 10 0), (.int 16 0), (.int 13 0), (.int 0 0), (.int 7 0), (.int 7 0), (.int 16 0), (.int 13 0), (.int 16 0), (.int 10 0), (.int 15 0), (.int 18 0), (.int 5 0), (.int 16 0), (.int 10 0), (.int 15 0), (.int 13 0), (.int 11 0), (.int 16 0), (.int 13 0), (.int 5 0), (.int 5 0), (.int 0 0), (.int 16 0), (.int 10 0), (.int 1 0), (.int 15 0), (.int 2 0), (.int 0 0), (.int 1 0)] 0), #[]⟩
noncomputable abbrev o73 (P : Params) : Obj := ⟨(.type "re.Pattern"), none, (.fields #[(.str (PySem.Str.mk #[40, 63, 58, 92, 114, 92, 110, 124, 92, 110, 124, 92, 114, 40, 63, 33, 92, 110, 41, 41]) 350), (.int 32 389), (.int 0 0), .none, .none, (.ref 72), (.int 0 0)]), #[]⟩
noncomputable abbrev o74 (P : Params) : Obj := ⟨(.type "tuple"), none, (.seq #[] 0), #[]⟩
noncomputable abbrev o75 (P : Params) : Obj := ⟨.none, none, (.fields #[]), #[]⟩
noncomputable abbrev o76 (P : Params) : Obj := ⟨(.type "tuple"), none, (.seq #[(.str (S "data") 396)] 0), #[]⟩
noncomputable abbrev o77 (P : Params) : Obj := ⟨(.type "tuple"), none, (.seq #[] 0), #[]⟩
noncomputable abbrev o78 (P : Params) : Obj := ⟨.none, none, (.func { name := (S "quotedata"), qualname := (S "quotedata"), params := fpar9, body := .stmts fbody9, scope := fsco9, globals := 0, closure := [], defaults := .none, kwdefaults := .none, doc := .none, pyModule := .none, annotations := none, code := .none, closureTuple := .none, builtins := 0 }), #[]⟩
noncomputable abbrev o79 (P : Params) : Obj := ⟨(.type "code"), none, (.fields #[(.str (S "quotedata") 393), (.str (S "quotedata") 394), (.str (S "/claim/cut.py") 395), (.int 28 0), (.int 1 0), (.int 0 0), (.int 0 0), (.int 3 0), (.ref 74), (.bool true), (.int 276 0), (.ref 75), .none, (.ref 76), (.ref 77), (.ref 78), (.int 397 0), (.int 28 0), (.str (S "/claim/cut.py") 398)]), #[]⟩
noncomputable abbrev o80 (P : Params) : Obj := ⟨(.type "function"), none, (.func { name := (S "quotedata"), qualname := (S "quotedata"), params := fpar9, body := .stmts fbody9, scope := fsco9, globals := 3, closure := [], defaults := .none, kwdefaults := .none, doc := .none, pyModule := (.str (S "cpy313.smtplib") 331), annotations := none, code := (.ref 79), closureTuple := .none, builtins := 0 }), #[]⟩
noncomputable abbrev o88 (P : Params) : Obj := ⟨(.type "set"), none, (.set b1ents.toArray 29 { mask := 127, place := #[0, 1, 2, 3, 4, 5, 6, 7, 8, 9, 10, 11, 12, 13, 14, 15, 16, 17, 18, 19, 20, 21, 22, 45, 79, 96, 127], dummies := #[], finger := 0, led := LED P, moves := 2, plain := true }), #[]⟩
noncomputable abbrev o92 (P : Params) : Obj := ⟨(.type "tuple"), none, (.seq #[] 0), #[]⟩
noncomputable abbrev o93 (P : Params) : Obj := ⟨.none, none, (.fields #[]), #[]⟩
noncomputable abbrev o94 (P : Params) : Obj := ⟨(.type "tuple"), none, (.seq #[(.str (S "code") 465)] 0), #[]⟩
noncomputable abbrev o95 (P : Params) : Obj := ⟨(.type "tuple"), none, (.seq #[] 0), #[]⟩
noncomputable abbrev o96 (P : Params) : Obj := ⟨.none, none, (.func { name := (S "in_table_b1"), qualname := (S "in_table_b1"), params := fpar12, body := .stmts fbody12, scope := fsco12, globals := 0, closure := [], defaults := .none, kwdefaults := .none, doc := .none, pyModule := .none, annotations := none, code := .none, closureTuple := .none, builtins := 0 }), #[]⟩
noncomputable abbrev o97 (P : Params) : Obj := ⟨(.type "code"), none, (.fields #[(.str (S "in_table_b1") 462), (.str (S "in_table_b1") 463), (.str (S "/claim/cut.py") 464), (.int 32 0), (.int 1 0), (.int 0 0), (.int 0 0), (.int 3 0), (.ref 92), (.bool true), (.int 276 0), (.ref 93), .none, (.ref 94), (.ref 95), (.ref 96), (.int 466 0), (.int 32 0), (.str (S "/claim/cut.py") 467)]), #[]⟩
noncomputable abbrev o98 (P : Params) : Obj := ⟨(.type "function"), none, (.func { name := (S "in_table_b1"), qualname := (S "in_table_b1"), params := fpar12, body := .stmts fbody12, scope := fsco12, globals := 3, closure := [], defaults := .none, kwdefaults := .none, doc := .none, pyModule := (.str (S "cpy313.stringprep") 400), annotations := none, code := (.ref 97), closureTuple := .none, builtins := 0 }), #[]⟩
noncomputable abbrev o99 (P : Params) : Obj := ⟨(.type "dict"), none, (.dict b3ents.toArray 650), #[]⟩
noncomputable abbrev o138 (P : Params) : Obj := ⟨(.type "tuple"), none, (.seq #[] 0), #[]⟩
noncomputable abbrev o139 (P : Params) : Obj := ⟨.none, none, (.fields #[]), #[]⟩
noncomputable abbrev o140 (P : Params) : Obj := ⟨(.type "tuple"), none, (.seq #[(.str (S "code") 2423), (.str (S "r") 2424)] 0), #[]⟩
noncomputable abbrev o141 (P : Params) : Obj := ⟨(.type "tuple"), none, (.seq #[] 0), #[]⟩
noncomputable abbrev o142 (P : Params) : Obj := ⟨.none, none, (.func { name := (S "map_table_b3"), qualname := (S "map_table_b3"), params := fpar14, body := .stmts fbody14, scope := fsco14, globals := 0, closure := [], defaults := .none, kwdefaults := .none, doc := .none, pyModule := .none, annotations := none, code := .none, closureTuple := .none, builtins := 0 }), #[]⟩
noncomputable abbrev o143 (P : Params) : Obj := ⟨(.type "code"), none, (.fields #[(.str (S "map_table_b3") 2420), (.str (S "map_table_b3") 2421), (.str (S "/claim/cut.py") 2422), (.int 35 0), (.int 1 0), (.int 0 0), (.int 0 0), (.int 3 0), (.ref 138), (.bool true), (.int 276 0), (.ref 139), .none, (.ref 140), (.ref 141), (.ref 142), (.int 2425 0), (.int 35 0), (.str (S "/claim/cut.py") 2426)]), #[]⟩
noncomputable abbrev o144 (P : Params) : Obj := ⟨(.type "function"), none, (.func { name := (S "map_table_b3"), qualname := (S "map_table_b3"), params := fpar14, body := .stmts fbody14, scope := fsco14, globals := 3, closure := [], defaults := .none, kwdefaults := .none, doc := .none, pyModule := (.str (S "cpy313.stringprep") 400), annotations := none, code := (.ref 143), closureTuple := .none, builtins := 0 }), #[]⟩
noncomputable abbrev o145 (P : Params) : Obj := ⟨(.type "tuple"), none, (.seq #[] 0), #[]⟩
noncomputable abbrev o146 (P : Params) : Obj := ⟨.none, none, (.fields #[]), #[]⟩
noncomputable abbrev o147 (P : Params) : Obj := ⟨(.type "tuple"), none, (.seq #[(.str (S "k") 2433), (.str (S "codes") 2434)] 0), #[]⟩
noncomputable abbrev o148 (P : Params) : Obj := ⟨(.type "tuple"), none, (.seq #[] 0), #[]⟩
noncomputable abbrev o149 (P : Params) : Obj := ⟨.none, none, (.func { name := (S "_law_unseen"), qualname := (S "_law_unseen"), params := fpar16, body := .stmts fbody16, scope := fsco16, globals := 0, closure := [], defaults := .none, kwdefaults := .none, doc := .none, pyModule := .none, annotations := none, code := .none, closureTuple := .none, builtins := 0 }), #[]⟩
noncomputable abbrev o150 (P : Params) : Obj := ⟨(.type "code"), none, (.fields #[(.str (S "_law_unseen") 2430), (.str (S "_law_unseen") 2431), (.str (S "/claim/cut.py") 2432), (.int 41 0), (.int 1 0), (.int 0 0), (.int 0 0), (.int 3 0), (.ref 145), (.bool true), (.int 276 0), (.ref 146), .none, (.ref 147), (.ref 148), (.ref 149), (.int 2435 0), (.int 41 0), (.str (S "/claim/cut.py") 2436)]), #[]⟩
noncomputable abbrev o151 (P : Params) : Obj := ⟨(.type "function"), none, (.func { name := (S "_law_unseen"), qualname := (S "_law_unseen"), params := fpar16, body := .stmts fbody16, scope := fsco16, globals := 3, closure := [], defaults := .none, kwdefaults := .none, doc := .none, pyModule := (.str (S "law_tr0050_01") 2428), annotations := none, code := (.ref 150), closureTuple := .none, builtins := 0 }), #[]⟩
noncomputable abbrev o152 (P : Params) : Obj := ⟨(.type "tuple"), none, (.seq #[] 0), #[]⟩
noncomputable abbrev o153 (P : Params) : Obj := ⟨.none, none, (.fields #[]), #[]⟩
noncomputable abbrev o154 (P : Params) : Obj := ⟨.none, none, (.func { name := (S "_law_lasting"), qualname := (S "_law_lasting"), params := fpar17, body := .stmts fbody17, scope := fsco17, globals := 0, closure := [], defaults := .none, kwdefaults := .none, doc := .none, pyModule := .none, annotations := none, code := .none, closureTuple := .none, builtins := 0 }), #[]⟩
noncomputable abbrev o155 (P : Params) : Obj := ⟨(.type "code"), none, (.fields #[(.str (S "_law_lasting") 2438), (.str (S "_law_lasting") 2439), (.str (S "/claim/cut.py") 2440), (.int 44 0), (.int 1 0), (.int 0 0), (.int 0 0), (.int 3 0), (.ref 152), (.bool true), (.int 276 0), (.ref 153), .none, .none, .none, (.ref 154), (.int 2441 0), (.int 44 0), (.str (S "/claim/cut.py") 2442)]), #[]⟩
noncomputable abbrev o156 (P : Params) : Obj := ⟨(.type "function"), none, (.func { name := (S "_law_lasting"), qualname := (S "_law_lasting"), params := fpar17, body := .stmts fbody17, scope := fsco17, globals := 3, closure := [], defaults := .none, kwdefaults := .none, doc := .none, pyModule := (.str (S "law_tr0050_01") 2428), annotations := none, code := (.ref 155), closureTuple := .none, builtins := 0 }), #[]⟩
noncomputable abbrev o157 (P : Params) : Obj := ⟨(.type "tuple"), none, (.seq #[] 0), #[]⟩
noncomputable abbrev o158 (P : Params) : Obj := ⟨.none, none, (.fields #[]), #[]⟩
noncomputable abbrev o159 (P : Params) : Obj := ⟨(.type "tuple"), none, (.seq #[(.str (S "numbers") 2447), (.str (S "signs") 2448), (.str (S "n") 2449), (.str (S "kind") 2450), (.str (S "sign") 2451), (.str (S "fold") 2452)] 0), #[]⟩
noncomputable abbrev o160 (P : Params) : Obj := ⟨(.type "tuple"), none, (.seq #[] 0), #[]⟩
noncomputable abbrev o161 (P : Params) : Obj := ⟨.none, none, (.func { name := (S "_law_signs"), qualname := (S "_law_signs"), params := fpar18, body := .stmts fbody18, scope := fsco18, globals := 0, closure := [], defaults := .none, kwdefaults := .none, doc := .none, pyModule := .none, annotations := none, code := .none, closureTuple := .none, builtins := 0 }), #[]⟩
noncomputable abbrev o162 (P : Params) : Obj := ⟨(.type "code"), none, (.fields #[(.str (S "_law_signs") 2444), (.str (S "_law_signs") 2445), (.str (S "/claim/cut.py") 2446), (.int 48 0), (.int 1 0), (.int 0 0), (.int 0 0), (.int 3 0), (.ref 157), (.bool true), (.int 276 0), (.ref 158), .none, (.ref 159), (.ref 160), (.ref 161), (.int 2453 0), (.int 48 0), (.str (S "/claim/cut.py") 2454)]), #[]⟩
noncomputable abbrev o163 (P : Params) : Obj := ⟨(.type "function"), none, (.func { name := (S "_law_signs"), qualname := (S "_law_signs"), params := fpar18, body := .stmts fbody18, scope := fsco18, globals := 3, closure := [], defaults := .none, kwdefaults := .none, doc := .none, pyModule := (.str (S "law_tr0050_01") 2428), annotations := none, code := (.ref 162), closureTuple := .none, builtins := 0 }), #[]⟩
noncomputable abbrev o164 (P : Params) : Obj := ⟨(.type "tuple"), none, (.seq #[] 0), #[]⟩
noncomputable abbrev o165 (P : Params) : Obj := ⟨.none, none, (.fields #[]), #[]⟩
noncomputable abbrev o166 (P : Params) : Obj := ⟨(.type "tuple"), none, (.seq #[(.str (S "signs") 2459), (.str (S "by_reader") 2460), (.str (S "by_sender") 2461), (.str (S "at_start") 2462), (.str (S "told") 2463), (.str (S "ahead") 2464), (.str (S "half") 2465), (.str (S "kind") 2466), (.str (S "sign") 2467), (.str (S "fold") 2468)] 0), #[]⟩
noncomputable abbrev o167 (P : Params) : Obj := ⟨(.type "tuple"), none, (.seq #[] 0), #[]⟩
noncomputable abbrev o168 (P : Params) : Obj := ⟨.none, none, (.func { name := (S "_law_walk"), qualname := (S "_law_walk"), params := fpar19, body := .stmts fbody19, scope := fsco19, globals := 0, closure := [], defaults := .none, kwdefaults := .none, doc := .none, pyModule := .none, annotations := none, code := .none, closureTuple := .none, builtins := 0 }), #[]⟩
noncomputable abbrev o169 (P : Params) : Obj := ⟨(.type "code"), none, (.fields #[(.str (S "_law_walk") 2456), (.str (S "_law_walk") 2457), (.str (S "/claim/cut.py") 2458), (.int 66 0), (.int 4 0), (.int 0 0), (.int 0 0), (.int 3 0), (.ref 164), (.bool true), (.int 276 0), (.ref 165), .none, (.ref 166), (.ref 167), (.ref 168), (.int 2469 0), (.int 66 0), (.str (S "/claim/cut.py") 2470)]), #[]⟩
noncomputable abbrev o170 (P : Params) : Obj := ⟨(.type "function"), none, (.func { name := (S "_law_walk"), qualname := (S "_law_walk"), params := fpar19, body := .stmts fbody19, scope := fsco19, globals := 3, closure := [], defaults := .none, kwdefaults := .none, doc := .none, pyModule := (.str (S "law_tr0050_01") 2428), annotations := none, code := (.ref 169), closureTuple := .none, builtins := 0 }), #[]⟩
noncomputable abbrev o171 (P : Params) : Obj := ⟨(.type "tuple"), none, (.seq #[] 0), #[]⟩
noncomputable abbrev o172 (P : Params) : Obj := ⟨.none, none, (.fields #[]), #[]⟩
noncomputable abbrev o173 (P : Params) : Obj := ⟨.none, none, (.func { name := (S "_law_hand"), qualname := (S "_law_hand"), params := fpar20, body := .stmts fbody20, scope := fsco20, globals := 0, closure := [], defaults := .none, kwdefaults := .none, doc := .none, pyModule := .none, annotations := none, code := .none, closureTuple := .none, builtins := 0 }), #[]⟩
noncomputable abbrev o174 (P : Params) : Obj := ⟨(.type "code"), none, (.fields #[(.str (S "_law_hand") 2472), (.str (S "_law_hand") 2473), (.str (S "/claim/cut.py") 2474), (.int 92 0), (.int 2 0), (.int 0 0), (.int 0 0), (.int 3 0), (.ref 171), (.bool true), (.int 276 0), (.ref 172), .none, .none, .none, (.ref 173), (.int 2475 0), (.int 92 0), (.str (S "/claim/cut.py") 2476)]), #[]⟩
noncomputable abbrev o175 (P : Params) : Obj := ⟨(.type "function"), none, (.func { name := (S "_law_hand"), qualname := (S "_law_hand"), params := fpar20, body := .stmts fbody20, scope := fsco20, globals := 3, closure := [], defaults := .none, kwdefaults := .none, doc := .none, pyModule := (.str (S "law_tr0050_01") 2428), annotations := none, code := (.ref 174), closureTuple := .none, builtins := 0 }), #[]⟩
noncomputable abbrev o176 (P : Params) : Obj := ⟨(.type "tuple"), none, (.seq #[] 0), #[]⟩
noncomputable abbrev o177 (P : Params) : Obj := ⟨.none, none, (.fields #[]), #[]⟩
noncomputable abbrev o178 (P : Params) : Obj := ⟨.none, none, (.func { name := (S "law"), qualname := (S "law"), params := fpar21, body := .stmts fbody21, scope := fsco21, globals := 0, closure := [], defaults := .none, kwdefaults := .none, doc := .none, pyModule := .none, annotations := none, code := .none, closureTuple := .none, builtins := 0 }), #[]⟩
noncomputable abbrev o179 (P : Params) : Obj := ⟨(.type "code"), none, (.fields #[(.str (S "law") 2478), (.str (S "law") 2479), (.str (S "/claim/cut.py") 2480), (.int 103 0), (.int 1 0), (.int 0 0), (.int 0 0), (.int 3 0), (.ref 176), (.bool true), (.int 276 0), (.ref 177), .none, .none, .none, (.ref 178), (.int 2481 0), (.int 103 0), (.str (S "/claim/cut.py") 2482)]), #[]⟩
noncomputable abbrev o180 (P : Params) : Obj := ⟨(.type "function"), none, (.func { name := (S "law"), qualname := (S "law"), params := fpar21, body := .stmts fbody21, scope := fsco21, globals := 3, closure := [], defaults := .none, kwdefaults := .none, doc := .none, pyModule := (.str (S "law_tr0050_01") 2428), annotations := none, code := (.ref 179), closureTuple := .none, builtins := 0 }), #[]⟩
noncomputable def K (P : Params) : Frag := (nat_lit 2, o2s2 P) :: (nat_lit 3, o3s21 P) :: (nat_lit 6, o6 P) :: (nat_lit 11, o11 P) :: (nat_lit 12, o12 P) :: (nat_lit 32, o32 P) :: (nat_lit 39, o39 P) :: (nat_lit 40, o40 P) :: (nat_lit 41, o41s3 P) :: (nat_lit 42, o42 P) :: (nat_lit 45, o45 P) :: (nat_lit 52, o52 P) :: (nat_lit 53, o53 P) :: (nat_lit 54, o54 P) :: (nat_lit 57, o57 P) :: (nat_lit 58, o58 P) :: (nat_lit 59, o59 P) :: (nat_lit 60, o60 P) :: (nat_lit 61, o61 P) :: (nat_lit 62, o62 P) :: (nat_lit 63, o63 P) :: (nat_lit 67, o67 P) :: (nat_lit 68, o68 P) :: (nat_lit 72, o72 P) :: (nat_lit 73, o73 P) :: (nat_lit 74, o74 P) :: (nat_lit 75, o75 P) :: (nat_lit 76, o76 P) :: (nat_lit 77, o77 P) :: (nat_lit 78, o78 P) :: (nat_lit 79, o79 P) :: (nat_lit 80, o80 P) :: (nat_lit 88, o88 P) :: (nat_lit 92, o92 P) :: (nat_lit 93, o93 P) :: (nat_lit 94, o94 P) :: (nat_lit 95, o95 P) :: (nat_lit 96, o96 P) :: (nat_lit 97, o97 P) :: (nat_lit 98, o98 P) :: (nat_lit 99, o99 P) :: (nat_lit 138, o138 P) :: (nat_lit 139, o139 P) :: (nat_lit 140, o140 P) :: (nat_lit 141, o141 P) :: (nat_lit 142, o142 P) :: (nat_lit 143, o143 P) :: (nat_lit 144, o144 P) :: (nat_lit 145, o145 P) :: (nat_lit 146, o146 P) :: (nat_lit 147, o147 P) :: (nat_lit 148, o148 P) :: (nat_lit 149, o149 P) :: (nat_lit 150, o150 P) :: (nat_lit 151, o151 P) :: (nat_lit 152, o152 P) :: (nat_lit 153, o153 P) :: (nat_lit 154, o154 P) :: (nat_lit 155, o155 P) :: (nat_lit 156, o156 P) :: (nat_lit 157, o157 P) :: (nat_lit 158, o158 P) :: (nat_lit 159, o159 P) :: (nat_lit 160, o160 P) :: (nat_lit 161, o161 P) :: (nat_lit 162, o162 P) :: (nat_lit 163, o163 P) :: (nat_lit 164, o164 P) :: (nat_lit 165, o165 P) :: (nat_lit 166, o166 P) :: (nat_lit 167, o167 P) :: (nat_lit 168, o168 P) :: (nat_lit 169, o169 P) :: (nat_lit 170, o170 P) :: (nat_lit 171, o171 P) :: (nat_lit 172, o172 P) :: (nat_lit 173, o173 P) :: (nat_lit 174, o174 P) :: (nat_lit 175, o175 P) :: (nat_lit 176, o176 P) :: (nat_lit 177, o177 P) :: (nat_lit 178, o178 P) :: (nat_lit 179, o179 P) :: (nat_lit 180, o180 P) :: []
noncomputable def asK : List Addr := nat_lit 2 :: nat_lit 3 :: nat_lit 6 :: nat_lit 11 :: nat_lit 12 :: nat_lit 32 :: nat_lit 39 :: nat_lit 40 :: nat_lit 41 :: nat_lit 42 :: nat_lit 45 :: nat_lit 52 :: nat_lit 53 :: nat_lit 54 :: nat_lit 57 :: nat_lit 58 :: nat_lit 59 :: nat_lit 60 :: nat_lit 61 :: nat_lit 62 :: nat_lit 63 :: nat_lit 67 :: nat_lit 68 :: nat_lit 72 :: nat_lit 73 :: nat_lit 74 :: nat_lit 75 :: nat_lit 76 :: nat_lit 77 :: nat_lit 78 :: nat_lit 79 :: nat_lit 80 :: nat_lit 88 :: nat_lit 92 :: nat_lit 93 :: nat_lit 94 :: nat_lit 95 :: nat_lit 96 :: nat_lit 97 :: nat_lit 98 :: nat_lit 99 :: nat_lit 138 :: nat_lit 139 :: nat_lit 140 :: nat_lit 141 :: nat_lit 142 :: nat_lit 143 :: nat_lit 144 :: nat_lit 145 :: nat_lit 146 :: nat_lit 147 :: nat_lit 148 :: nat_lit 149 :: nat_lit 150 :: nat_lit 151 :: nat_lit 152 :: nat_lit 153 :: nat_lit 154 :: nat_lit 155 :: nat_lit 156 :: nat_lit 157 :: nat_lit 158 :: nat_lit 159 :: nat_lit 160 :: nat_lit 161 :: nat_lit 162 :: nat_lit 163 :: nat_lit 164 :: nat_lit 165 :: nat_lit 166 :: nat_lit 167 :: nat_lit 168 :: nat_lit 169 :: nat_lit 170 :: nat_lit 171 :: nat_lit 172 :: nat_lit 173 :: nat_lit 174 :: nat_lit 175 :: nat_lit 176 :: nat_lit 177 :: nat_lit 178 :: nat_lit 179 :: nat_lit 180 :: []
end Mine

end
section
open PySem PySem.W PyProof.Rows
set_option Elab.async false
set_option maxRecDepth 100000
set_option linter.unusedVariables false
namespace Mine
noncomputable abbrev qbody : List Stmt := Subtype.val (p := fun x => [0, 2, 3, 4, 6, 7, 8, 9, 11, 12, 13, 14, 16, 17, 18, 19, 20, 21].filterMap (fun i => pw.main.body[i]?) = x) ⟨_, by conv => lhs; whnf⟩
noncomputable def q01 : Program := { pw with main := { pw.main with body := qbody } }
noncomputable def loose01 : List PySem.Str := [S "_twin_re_1", S "_twin_re_2", S "b1_set", S "b3_exceptions"]
noncomputable abbrev HK : Hook := kHook K asK (fun _ => by kernel_rfl)
noncomputable abbrev Xt01 : Shared → Bool := fun s => xlAt q01 [] s && recOk (RowW.records PySem.Challenge.rw_tr0050_01.row.toRowW) s

end Mine

end
section
open PySem PySem.W PyProof.Rows
set_option Elab.async false
set_option maxRecDepth 100000
set_option linter.unusedVariables false
namespace Mine
noncomputable abbrev dtop : List Frame := [topFrame ⟨0, 0, 0, 0⟩]
section
variable (pw : Program) (w : World) (os : OsState) (c : Code)

noncomputable abbrev sT (T : BT) (n t : Nat) : SharedT := ⟨T, n, {}, #[], {}, t, os⟩

/-- big step: the tree `x` ends with `a`, from one store to another, in at most `B` steps -/
noncomputable def Ev {α : Type} (B : Nat) (s : SharedT) (p : Pos) (x : Sem α) (a : α) (s' : SharedT) (p' : Pos) : Prop :=
  ∃ k, k ≤ B ∧ ∀ (K : α → Sem Fin) (H : Value → Sem Fin) (gd : Bool → Bool) (lv : List Value → List Value),
    segGoT treeTable pw w 28 (some (.ref 6)) 1 k s ⟨x.wrap K H gd lv, c, p, dtop⟩ = some (s', ⟨K a, c, p', dtop⟩)

variable {pw w os c}
theorem segGoT_add : ∀ (k l : Nat) (s s' : SharedT) (t t' : Thread),
    segGoT treeTable pw w 28 (some (.ref 6)) 1 k s t = some (s', t') →
    segGoT treeTable pw w 28 (some (.ref 6)) 1 (k + l) s t = segGoT treeTable pw w 28 (some (.ref 6)) 1 l s' t'
  | 0, l, s, s', t, t', h => by
    simp only [segGoT, Option.some.injEq, Prod.mk.injEq] at h
    obtain ⟨rfl, rfl⟩ := h
    rw [Nat.zero_add]
  | k + 1, l, s, s', t, t', h => by
    rw [show k + 1 + l = (k + l) + 1 by omega]
    unfold segGoT at h
    conv => lhs; unfold segGoT
    cases e1 : endAt 1 t with
    | some f => rw [e1] at h; cases h
    | none =>
      rw [e1] at h
      cases e2 : stepOk 28 (some (.ref 6)) t with
      | false => rw [e2] at h; cases h
      | true =>
        rw [e2] at h
        cases e3 : stepT (denote treeTable) pw w s t with
        | none => rw [e3] at h; cases h
        | some st => rw [e3] at h; exact segGoT_add k l _ _ _ _ h

section rules
variable {α β : Type} {s s' s₂ : SharedT} {p p' p₂ : Pos}
theorem Ev.le {B B' : Nat} {x : Sem α} {a : α} (h : Ev pw w c B s p x a s' p') (l : B ≤ B') : Ev pw w c B' s p x a s' p' := by
  obtain ⟨k, hk, h⟩ := h
  exact ⟨k, Nat.le_trans hk l, h⟩
theorem Ev.pure {a : α} : Ev pw w c 0 s p (.pure a) a s p := ⟨0, Nat.le_refl _, fun _ _ _ _ => rfl⟩
theorem Ev.bind {B B' : Nat} {x : Sem α} {f : α → Sem β} {a : α} {b : β} (h : Ev pw w c B s p x a s' p') (k : Ev pw w c B' s' p' (f a) b s₂ p₂) : Ev pw w c (B' + B) s p (x.bind f) b s₂ p₂ := by
  obtain ⟨n, hn, h⟩ := h
  obtain ⟨m, hm, k⟩ := k
  refine ⟨n + m, by omega, fun K H gd lv => ?_⟩
  rw [Sem.bind_eq_wrap, Sem.wrap_wrap, segGoT_add _ _ _ _ _ _ (h _ _ _ _)]
  exact k K H gd lv
theorem Ev.keep {B : Nat} {x : Sem α} {a : α} {vs : List Value} (h : Ev pw w c B s p x a s' p') : Ev pw w c B s p (x.keep vs) a s' p' := by
  obtain ⟨n, hn, h⟩ := h
  exact ⟨n, hn, fun K H gd lv => by rw [Sem.keep_eq_wrap, Sem.wrap_wrap]; exact h _ _ _ _⟩
theorem Ev.holding {B : Nat} {x : Sem α} {a : α} {vs : List Value} (h : Ev pw w c B s p x a s' p') : Ev pw w c B s p (holding vs x) a s' p' := by
  unfold PySem.holding
  split
  · exact h
  · exact h.keep
theorem Ev.onRaise {B : Nat} {x : Sem α} {a : α} {f : Value → Sem Unit} (h : Ev pw w c B s p x a s' p') : Ev pw w c B s p (x.onRaise f) a s' p' := by
  obtain ⟨n, hn, h⟩ := h
  exact ⟨n, hn, fun K H gd lv => by rw [Sem.onRaise_eq_wrap, Sem.wrap_wrap]; exact h _ _ _ _⟩
theorem Ev.steps {B : Nat} {x : Sem α} {y : Sem α} {a : α} {k : Nat} (e : ∀ (K : α → Sem Fin) (H : Value → Sem Fin) (gd : Bool → Bool) (lv : List Value → List Value),
    segGoT treeTable pw w 28 (some (.ref 6)) 1 k s ⟨x.wrap K H gd lv, c, p, dtop⟩ = some (s', ⟨y.wrap K H gd lv, c, p', dtop⟩)) (h : Ev pw w c B s' p' y a s₂ p₂) : Ev pw w c (B + k) s p x a s₂ p₂ := by
  obtain ⟨n, hn, h⟩ := h
  exact ⟨k + n, by omega, fun K H gd lv => by rw [segGoT_add _ _ _ _ _ _ (e K H gd lv)]; exact h K H gd lv⟩
/-- one step of the outer tree -/
theorem Ev.step {B : Nat} {x y : Sem α} {a : α} (e : ∀ (K : α → Sem Fin) (H : Value → Sem Fin) (gd : Bool → Bool) (lv : List Value → List Value),
    segGoT treeTable pw w 28 (some (.ref 6)) 1 1 s ⟨x.wrap K H gd lv, c, p, dtop⟩ = some (s', ⟨y.wrap K H gd lv, c, p', dtop⟩)) (h : Ev pw w c B s' p' y a s₂ p₂) : Ev pw w c (B + 1) s p x a s₂ p₂ := Ev.steps e h
theorem Ev.all {x : Sem α} {a : α} {k : Nat} (e : ∀ (K : α → Sem Fin) (H : Value → Sem Fin) (gd : Bool → Bool) (lv : List Value → List Value),
    segGoT treeTable pw w 28 (some (.ref 6)) 1 k s ⟨x.wrap K H gd lv, c, p, dtop⟩ = some (s', ⟨K a, c, p', dtop⟩)) : Ev pw w c k s p x a s' p' := ⟨k, Nat.le_refl _, e⟩
end rules
section rules
variable {α β : Type} {T T' : BT} {n t : Nat} {B : Nat} {s₂ : SharedT} {p p' p₂ : Pos}
theorem Ev.load {i : Addr} {q : Option Value} {k : Obj → Sem α} {a : α} {o : Obj} (hi : i < n) (hg : T.get i = some o) (ha : alive o = some o)
    (h : Ev pw w c B (sT os T n t) p (k o) a s₂ p₂) : Ev pw w c (B + 1) (sT os T n t) p (.load i q k) a s₂ p₂ := by
  refine Ev.step (fun K H gd lv => ?_) h
  have e : Nat.blt i n = true := Nat.ble_eq_true_of_le hi
  simp only [segGoT, Sem.wrap, endAt]
  simp only [stepT, e, hg, ha]
  rfl
theorem Ev.update {i : Addr} {q : Option Value} {f : Obj → Obj} {k : Unit → Sem α} {a : α} {o : Obj} (hi : i < n) (h28 : 28 ≤ i) (hg : T.get i = some o) (ha : alive o = some o)
    (h : Ev pw w c B (sT os (T.set i f) n t) p (k ()) a s₂ p₂) : Ev pw w c (B + 1) (sT os T n t) p (.update i q f k) a s₂ p₂ := by
  refine Ev.step (fun K H gd lv => ?_) h
  have e : Nat.blt i n = true := Nat.ble_eq_true_of_le hi
  have e2 : Nat.ble 28 i = true := Nat.ble_eq_true_of_le h28
  simp only [segGoT, Sem.wrap, endAt, stepOk, e2, Bool.true_or]
  simp only [stepT, e, hg, ha]
  rfl
theorem Ev.alloc {o : Obj} {k : Addr → Sem α} {a : α} (hg : ((T.ins n o).get n).isSome = true)
    (h : Ev pw w c B (sT os (T.ins n o) (n + 1) t) p (k n) a s₂ p₂) : Ev pw w c (B + 1) (sT os T n t) p (.alloc o k) a s₂ p₂ := by
  refine Ev.step (fun K H gd lv => ?_) h
  simp only [segGoT, Sem.wrap, endAt]
  simp only [stepT, hg]
  rfl
theorem Ev.rule {r : String} {k : Unit → Sem α} {a : α} (h : Ev pw w c B (sT os T n t) p (k ()) a s₂ p₂) : Ev pw w c (B + 1) (sT os T n t) p (.rule r k) a s₂ p₂ :=
  Ev.step (fun K H gd lv => rfl) h
theorem Ev.stand {q : Pos} {k : Unit → Sem α} {a : α} (h : Ev pw w c B (sT os T n t) q (k ()) a s₂ p₂) : Ev pw w c (B + 1) (sT os T n t) p (.at q k) a s₂ p₂ :=
  Ev.step (fun K H gd lv => rfl) h
theorem Ev.fresh {k : Tok → Sem α} {a : α} (h : Ev pw w c B (sT os T n (t + 1)) p (k t) a s₂ p₂) : Ev pw w c (B + 1) (sT os T n t) p (.fresh k) a s₂ p₂ :=
  Ev.step (fun K H gd lv => rfl) h
end rules
end
end Mine

end
section
open PySem PySem.W PyProof.Rows
set_option Elab.async false
set_option maxRecDepth 100000
set_option linter.unusedVariables false
namespace Mine
noncomputable def hv (x : Int) : Int := 
  let h : Int := x.natAbs % (2 ^ 61 - 1 : Nat)
  let h := if x < 0 then -h else h
  if h == -1 then -2 else h
theorem hv_of {x : Int} (h0 : 0 ≤ x) (h1 : x < 2 ^ 60) : hv x = x := by
  have a : ¬ x < 0 := by omega
  have b : ((x.natAbs : Int) % ((2 ^ 61 - 1 : Nat) : Int)) = x := by omega
  have c : ¬ x = -1 := by omega
  show (if ((if x < 0 then -((x.natAbs : Int) % ((2 ^ 61 - 1 : Nat) : Int)) else ((x.natAbs : Int) % ((2 ^ 61 - 1 : Nat) : Int))) == -1) = true then (-2 : Int) else if x < 0 then -((x.natAbs : Int) % ((2 ^ 61 - 1 : Nat) : Int)) else ((x.natAbs : Int) % ((2 ^ 61 - 1 : Nat) : Int))) = x
  rw [b, if_neg a, if_neg (by simpa using c)]
theorem red_of {x : Int} (h0 : 0 ≤ x) (h1 : x < 2 ^ 60) : pyHashByItsType.reduced x = .pure x := by
  unfold pyHashByItsType.reduced
  have a : (decide (-(2 ^ 63 : Int) ≤ x) && decide (x < 2 ^ 63)) = true := by simp; omega
  rw [if_pos a]
  have c : ¬ x = -1 := by omega
  simp [c]
  rfl
section
variable {pw : Program} {w : World} {os : OsState} {bd : List Stmt} {env : Env} {T : BT} {n t tk : Nat} {p : Pos}
noncomputable abbrev cE (bd : List Stmt) (env : Env) : Code := .body bd env
theorem hash_steps (w : World) (x : Int) (K : Int → Sem Fin) (H : Value → Sem Fin) (gd : Bool → Bool) (lv : List Value → List Value) :
    segGoT treeTable pw w 28 (some (.ref 6)) 1 5 (sT os T n t) ⟨(pyHash (.int x tk)).wrap K H gd lv, cE bd env, p, dtop⟩ = some (sT os T n (t + 1), ⟨(pyHashByItsType.reduced (hv x)).wrap K H gd lv, cE bd env, p, dtop⟩) :=
  byRow2 "special-get-raises" (P := fun w => segGoT treeTable pw w 28 (some (.ref 6)) 1 5 (sT os T n t) ⟨(pyHash (.int x tk)).wrap K H gd lv, cE bd env, p, dtop⟩ = some (sT os T n (t + 1), ⟨(pyHashByItsType.reduced (hv x)).wrap K H gd lv, cE bd env, p, dtop⟩))
    (fun w => by kernel_rfl) (fun w => by kernel_rfl) w
theorem ev_hash {x : Int} (h0 : 0 ≤ x) (h1 : x < 2 ^ 60) : Ev pw w (cE bd env) (5) (sT os T n t) p (pyHash (.int x tk)) x (sT os T n (t + 1)) p := by
  refine Ev.steps (hash_steps w x) ?_
  rw [hv_of h0 h1, red_of h0 h1]
  exact Ev.pure

noncomputable def dO (es : Array DictEntry) (e : Nat) : Obj := ⟨.type "dict", none, .dict es e, #[]⟩
theorem alive_dO (es : Array DictEntry) (e : Nat) : alive (dO es e) = some (dO es e) := rfl
theorem places_nil {es : Array DictEntry} {x : Int} (h : ∀ a ∈ es, a.hash ≠ x) : placesWithHash es.size (fun i => es[i]?.map (·.hash)) x = [] := by
  unfold placesWithHash
  rw [List.filter_eq_nil_iff]
  intro i hi
  have hi : i < es.size := by simpa using hi
  simp only [Array.getElem?_eq_getElem hi, Option.map_some, beq_iff_eq, Option.some.injEq]
  exact h _ (Array.getElem_mem hi)
variable {d : Addr} {es : Array DictEntry} {e : Nat} {x : Int}
theorem ev_entries {q : Option Value} (hd : d < n) (hg : T.get d = some (dO es e)) : Ev pw w (cE bd env) (1) (sT os T n t) p (dictEntries d q) es (sT os T n t) p :=
  Ev.load hd hg (alive_dO es e) Ev.pure
theorem ev_epoch {q : Option Value} (hd : d < n) (hg : T.get d = some (dO es e)) : Ev pw w (cE bd env) (1) (sT os T n t) p (dictEpoch d q) e (sT os T n t) p :=
  Ev.load hd hg (alive_dO es e) Ev.pure
theorem ev_miss (hd : d < n) (hg : T.get d = some (dO es e)) (hm : ∀ a ∈ es, a.hash ≠ x) : Ev pw w (cE bd env) (1) (sT os T n t) p (dictFind d (.int x tk) x) none (sT os T n t) p := by
  unfold dictFind
  refine Ev.holding ?_
  refine Ev.bind (ev_entries hd hg) ?_
  simp only [places_nil hm]
  exact Ev.pure
theorem get_same {T : BT} {i : Nat} {f : Obj → Obj} {o : Obj} (h : T.get i = some o) : (T.set i f).get i = some (f o) := by
  rw [BT.get_set, if_pos rfl, h]; rfl
theorem get_other {T : BT} {i j : Nat} {f : Obj → Obj} (h : j ≠ i) : (T.set i f).get j = T.get j := by
  rw [BT.get_set, if_neg h]
theorem ev_push {q : Option Value} {y : DictEntry} (hd : d < n) (h28 : 28 ≤ d) (hg : T.get d = some (dO es e)) (hs : es.size < 100000) :
    Ev pw w (cE bd env) (3) (sT os T n t) p (updateDictKeys d (·.push y) q) () (sT os (T.set d (Obj.mapDictKeys (·.push y))) n t) p := by
  refine Ev.load hd hg (alive_dO es e) ?_
  refine Ev.update hd h28 hg (alive_dO es e) ?_
  refine Ev.load hd (get_same hg) (o := dO (es.push y) (e + 1)) rfl ?_
  have hp : (Data.dict (es.push y) (e + 1)).pastItsLine = none := by
    show (if (es.push y).size > sizeLine + 1 then some "dict:memory" else none) = none
    refine if_neg ?_
    rw [Array.size_push]
    have : sizeLine + 1 = 16777217 := rfl
    omega
  show Ev pw w (cE bd env) 0 (sT os (T.set d (Obj.mapDictKeys (·.push y))) n t) p (match (Data.dict (es.push y) (e + 1)).pastItsLine with | some what => Sem.unsupported what | _ => (Sem.pure () : Sem Unit)) () _ p
  rw [hp]
  exact Ev.pure
theorem ev_set {v : Value} (hd : d < n) (h28 : 28 ≤ d) (hg : T.get d = some (dO es e)) (hs : es.size < 100000) (h0 : 0 ≤ x) (h1 : x < 2 ^ 60) (hm : ∀ a ∈ es, a.hash ≠ x) :
    Ev pw w (cE bd env) (10) (sT os T n t) p (dictSet d (.int x tk) v) () (sT os (T.set d (Obj.mapDictKeys (·.push ⟨x, .int x tk, v⟩))) n (t + 1)) p := by
  unfold dictSet
  refine Ev.holding ?_
  refine Ev.bind (ev_hash h0 h1) ?_
  unfold dictSetHashed
  refine Ev.holding ?_
  refine Ev.bind (ev_miss hd hg hm) ?_
  refine Ev.rule ?_
  exact ev_push hd h28 hg hs
theorem ev_put {v : Value} (hd : d < n) (h28 : 28 ≤ d) (hg : T.get d = some (dO es e)) (hs : es.size < 100000) (hm : ∀ a ∈ es, a.hash ≠ x) :
    Ev pw w (cE bd env) (4) (sT os T n t) p (dictPut d x (.int x tk) v) () (sT os (T.set d (Obj.mapDictKeys (·.push ⟨x, .int x tk, v⟩))) n t) p := by
  unfold dictPut
  refine Ev.bind (ev_miss hd hg hm) ?_
  exact ev_push hd h28 hg hs
end
end Mine

end
section
open PySem PySem.W PyProof.Rows
set_option Elab.async false
set_option maxRecDepth 100000
set_option linter.unusedVariables false
namespace Mine
noncomputable abbrev pr (D : Pos) (q : Int × Str) : Sem Value × Sem Value := (PySem.mkInt q.1, (PySem.mkText q.2).bind fun x => (PySem.standAt D).bind fun _ => .pure x)
noncomputable def entsAt3 : Nat → List (Int × Str) → List DictEntry
  | _, [] => []
  | t, (i, x) :: r => ⟨i, .int i t, .str x (t + 1)⟩ :: entsAt3 (t + 3) r
noncomputable def pushAll (d : Nat) : BT → List DictEntry → BT
  | T, [] => T
  | T, y :: r => pushAll d (T.set d (Obj.mapDictKeys (·.push y))) r
theorem pushAll_other {d j : Nat} (h : j ≠ d) : ∀ (l : List DictEntry) (T : BT), (pushAll d T l).get j = T.get j
  | [], T => rfl
  | y :: l, T => by rw [pushAll, pushAll_other h l, get_other h]
theorem pushAll_same {d : Nat} : ∀ (l : List DictEntry) (T : BT) (es : Array DictEntry) (e : Nat), T.get d = some (dO es e) → (pushAll d T l).get d = some (dO (es ++ l.toArray) (e + l.length))
  | [], T, es, e, h => by simpa [pushAll] using h
  | y :: l, T, es, e, h => by
    rw [pushAll, pushAll_same l _ (es.push y) (e + 1) (get_same h)]
    simp only [List.length_cons]
    rw [show e + 1 + l.length = e + (l.length + 1) by omega]
    congr 2
    simp
theorem entsAt3_len : ∀ (t : Nat) (l : List (Int × Str)), (entsAt3 t l).length = l.length
  | t, [] => rfl
  | t, (i, x) :: r => by simp [entsAt3, entsAt3_len]
theorem entsAt3_hash : ∀ (t : Nat) (l : List (Int × Str)) (a : DictEntry), a ∈ entsAt3 t l → ∃ q ∈ l, a.hash = q.1
  | t, [], a, h => by cases h
  | t, (i, x) :: r, a, h => by
    rcases List.mem_cons.mp h with rfl | h
    · exact ⟨_, List.mem_cons_self, rfl⟩
    · obtain ⟨q, hq, e⟩ := entsAt3_hash _ r a h
      exact ⟨q, List.mem_cons_of_mem _ hq, e⟩

noncomputable def subLoop (d : Addr) (pairs : List (Sem Value × Sem Value)) : Sem PUnit := do
  for (k, v) in pairs do
    let kv ← k
    let vv ← holding [kv] v
    holding [kv, vv] (dictSet d kv vv)
noncomputable def subFor (d : Addr) (pairs : List (Sem Value × Sem Value)) (b : PUnit) : Sem PUnit := forIn pairs b fun x _ => match x with
  | (k, v) => do
    let kv ← k
    let vv ← holding [kv] v
    holding [kv, vv] (dictSet d kv vv)
    pure (ForInStep.yield PUnit.unit)
theorem subLoop_eq (d : Addr) (l : List (Sem Value × Sem Value)) : subLoop d l = (subFor d l PUnit.unit).bind fun _ => .pure () := rfl
theorem subFor_cons (d : Addr) (k v : Sem Value) (r : List (Sem Value × Sem Value)) : subFor d ((k, v) :: r) PUnit.unit =
    (k.bind fun kv => (holding [kv] v).bind fun vv => (holding [kv, vv] (dictSet d kv vv)).bind fun _ => .pure (ForInStep.yield PUnit.unit)).bind fun s => match s with | .done b => .pure b | .yield b => subFor d r b := by
  unfold subFor
  rw [List.forIn_cons]
  kernel_rfl
section
variable {pw : Program} {w : World} {os : OsState} {bd : List Stmt} {env : Env}
theorem ev_pr1 {T : BT} {n t : Nat} {p : Pos} {i : Int} : Ev pw w (cE bd env) (1) (sT os T n t) p (PySem.mkInt i) (.int i t) (sT os T n (t + 1)) p :=
  Ev.fresh Ev.pure
theorem ev_pr2 {T : BT} {n t : Nat} {p D : Pos} {x : Str} : Ev pw w (cE bd env) (2) (sT os T n t) p ((PySem.mkText x).bind fun x => (PySem.standAt D).bind fun _ => .pure x) (Value.str x t) (sT os T n (t + 1)) D :=
  Ev.fresh (Ev.stand Ev.pure)
theorem ev_subFor {D : Pos} {d n : Nat} (hd : d < n) (h28 : 28 ≤ d) : ∀ (c : List (Int × Str)) (T : BT) (t : Nat) (fs : Array DictEntry) (e : Nat), T.get d = some (dO fs e) → fs.size + c.length < 100000 →
    (∀ q ∈ c, 0 ≤ q.1 ∧ q.1 < 2 ^ 60) → (∀ a ∈ fs, ∀ q ∈ c, a.hash ≠ q.1) → c.Pairwise (fun a b => a.1 < b.1) →
    Ev pw w (cE bd env) (13 * c.length) (sT os T n t) D (subFor d (c.map (pr D)) PUnit.unit) PUnit.unit (sT os (pushAll d T (entsAt3 t c)) n (t + 3 * c.length)) D
  | [], T, t, fs, e, hg, hs, hb, hm, hp => Ev.pure
  | (i, x) :: r, T, t, fs, e, hg, hs, hb, hm, hp => by
    have hb0 := hb (i, x) List.mem_cons_self
    rw [List.map_cons, subFor_cons]
    simp only [List.length_cons] at hs ⊢
    refine Ev.le (B := 13 * r.length + 13) (Ev.bind (s' := sT os (T.set d (Obj.mapDictKeys (·.push ⟨i, .int i t, .str x (t + 1)⟩))) n (t + 3)) (p' := D) (a := ForInStep.yield PUnit.unit) ?_ ?_) (by omega)
    · refine Ev.bind ev_pr1 ?_
      refine Ev.bind (Ev.holding ev_pr2) ?_
      refine Ev.bind (Ev.holding (ev_set hd h28 hg (by omega) hb0.1 hb0.2 (fun a ha => hm a ha _ List.mem_cons_self))) ?_
      exact Ev.pure
    · rw [show t + 3 * (r.length + 1) = t + 3 + 3 * r.length by omega]
      exact ev_subFor hd h28 r (T.set d (Obj.mapDictKeys (·.push ⟨i, .int i t, .str x (t + 1)⟩))) (t + 3) (fs.push ⟨i, .int i t, .str x (t + 1)⟩) (e + 1) (get_same hg) (by rw [Array.size_push]; omega)
        (fun q hq => hb q (List.mem_cons_of_mem _ hq)) (fun a ha q hq => by
          rcases Array.mem_push.mp ha with ha | rfl
          · exact hm a ha q (List.mem_cons_of_mem _ hq)
          · have := (List.pairwise_cons.mp hp).1 q hq
            exact fun e => by have e : i = q.1 := e; omega) (List.pairwise_cons.mp hp).2
theorem subDict_long {pairs : List (Sem Value × Sem Value)} (h : ¬ pairs.length ≤ 15) : subDict pairs =
    (PySem.alloc (dO #[] 0)).bind fun d => (holding [.ref d] ((PySem.rule "dict.display.long").bind fun _ => subLoop d pairs)).bind fun _ => .pure d := by
  unfold subDict
  simp only [if_neg h]
  rfl
theorem ins_get {T : BT} {n : Nat} {o : Obj} (h : ((T.ins n o).get n).isSome = true) : (T.ins n o).get n = some o := by
  rw [BT.get_ins o T n h, if_pos rfl]
theorem ins_other {T : BT} {n j : Nat} {o : Obj} (h : ((T.ins n o).get n).isSome = true) (hj : j ≠ n) : (T.ins n o).get j = T.get j := by
  rw [BT.get_ins o T n h, if_neg hj]
theorem ev_subDict {D : Pos} {n : Nat} (h28 : 28 ≤ n) (c : List (Int × Str)) (T : BT) (t : Nat) (hT : ((T.ins n (dO #[] 0)).get n).isSome = true) (hl : ¬ c.length ≤ 15) (hs : c.length < 100000)
    (hb : ∀ q ∈ c, 0 ≤ q.1 ∧ q.1 < 2 ^ 60) (hp : c.Pairwise (fun a b => a.1 < b.1)) :
    Ev pw w (cE bd env) (13 * c.length + 2) (sT os T n t) D (subDict (c.map (pr D))) n (sT os (pushAll n (T.ins n (dO #[] 0)) (entsAt3 t c)) (n + 1) (t + 3 * c.length)) D := by
  rw [subDict_long (by rw [List.length_map]; exact hl)]
  simp only [subLoop_eq]
  refine Ev.bind (B := 1) (B' := 13 * c.length + 1) (Ev.alloc hT Ev.pure) ?_
  have h1 := ev_subFor (pw := pw) (w := w) (os := os) (bd := bd) (env := env) (D := D) (d := n) (n := n + 1) (by omega) h28 c _ t #[] 0 (ins_get hT) (by simpa using hs) hb (fun a ha => by simp at ha) hp
  refine Ev.le (B := 0 + (13 * c.length + 1)) ?_ (by omega)
  refine Ev.bind (a := ()) (B := 13 * c.length + 1) (B' := 0) (Ev.holding (Ev.rule (Ev.le (Ev.bind Ev.pure (Ev.bind (a := PUnit.unit) h1 (Ev.pure (a := ())))) (by omega)))) Ev.pure

-- mergeMapping
theorem ev_typeOf {T : BT} {n t a : Nat} {p : Pos} {es : Array DictEntry} {e : Nat} (ha : a < n) (hg : T.get a = some (dO es e)) : Ev pw w (cE bd env) (1) (sT os T n t) p (typeOf (.ref a)) (.type "dict") (sT os T n t) p :=
  Ev.load ha hg (alive_dO es e) Ev.pure
theorem ev_plain {T : BT} {n t a : Nat} {p : Pos} {es : Array DictEntry} {e : Nat} (ha : a < n) (hg : T.get a = some (dO es e)) : Ev pw w (cE bd env) (1) (sT os T n t) p (isInstance (.ref a) (.type "dict")) true (sT os T n t) p := by
  unfold isInstance
  refine Ev.bind (ev_typeOf ha hg) ?_
  rw [show isSubtype (.type "dict") (.type "dict") = .pure true from by kernel_rfl]
  exact Ev.pure
theorem ev_iter {T : BT} {n t a : Nat} {p : Pos} {es : Array DictEntry} {e : Nat} (ha : a < n) (hg : T.get a = some (dO es e)) : Ev pw w (cE bd env) (1) (sT os T n t) p (specialOf (.ref a) "__iter__") (some (.builtin "dict.__iter__")) (sT os T n t) p := by
  unfold specialOf
  refine Ev.bind (ev_typeOf ha hg) ?_
  rw [show typeLookup (.type "dict") "__iter__" = .pure (some (.builtin "dict.__iter__")) from by kernel_rfl]
  exact Ev.pure
noncomputable def mFor (d a : Addr) (epoch : Nat) (is : List Nat) (b : PUnit) : Sem PUnit := forIn is b fun i _ => do
      let some e := (← dictEntries a)[i]? | unsupported "dict.changed-during-merge"
      holding [e.key, e.val] do
        if false then
          if (← dictFind d e.key e.hash).isSome then rule "dict.merge.duplicate-key"; raiseNew (← newExc (.type "KeyError") [e.key])
        dictPut d e.hash e.key e.val
      if (← dictEpoch a) != epoch then unsupported "dict.changed-during-merge"
      pure (ForInStep.yield PUnit.unit)
theorem ev_mFor {D : Pos} {d a n t : Nat} (hd : d < n) (h28 : 28 ≤ d) (ha : a < n) (had : a ≠ d) (fs : Array DictEntry) (ep : Nat) : ∀ (ys xs : List DictEntry) (T : BT) (es : Array DictEntry) (e : Nat),
    fs = (xs ++ ys).toArray → T.get d = some (dO es e) → T.get a = some (dO fs ep) → es.size + ys.length < 100000 → (∀ y ∈ ys, ∃ x k, y.key = .int x k ∧ y.hash = x) →
    (∀ z ∈ es, ∀ y ∈ ys, z.hash ≠ y.hash) → ys.Pairwise (fun p q => p.hash ≠ q.hash) →
    Ev pw w (cE bd env) (6 * ys.length) (sT os T n t) D (mFor d a ep (List.range' xs.length ys.length) PUnit.unit) PUnit.unit (sT os (pushAll d T ys) n t) D
  | [], xs, T, es, e, hf, hg, hga, hs, hk, hm, hp => Ev.pure
  | y :: ys, xs, T, es, e, hf, hg, hga, hs, hk, hm, hp => by
    have hi : fs[xs.length]? = some y := by rw [hf]; simp
    obtain ⟨x, k, h1, h2⟩ := hk y List.mem_cons_self
    have hy : y = ⟨x, .int x k, y.val⟩ := by obtain ⟨a, b, c⟩ := y; simp only at h1 h2 ⊢; rw [h1, h2]
    simp only [List.length_cons] at hs ⊢
    rw [List.range'_succ]
    unfold mFor
    rw [List.forIn_cons]
    refine Ev.le (B := 6 * ys.length + 6) (Ev.bind (s' := sT os (T.set d (Obj.mapDictKeys (·.push y))) n t) (p' := D) (a := ForInStep.yield PUnit.unit) ?_ ?_) (by omega)
    · refine Ev.bind (ev_entries ha hga) ?_
      simp only [hi]
      refine Ev.bind (B := 4) (B' := 1) (Ev.holding (a := ()) (s' := sT os (T.set d (Obj.mapDictKeys (·.push y))) n t) (p' := D) ?_) ?_
      · have := ev_put (pw := pw) (w := w) (os := os) (bd := bd) (env := env) (t := t) (p := D) (x := x) (tk := k) (v := y.val) hd h28 hg (by omega) (fun z hz => by have := hm z hz y List.mem_cons_self; rw [h2] at this; exact this)
        rw [← h1, ← h2] at this
        exact this
      · refine Ev.bind (ev_epoch ha (by rw [get_other had]; exact hga)) ?_
        have : (ep != ep) = false := by simp
        simp only [this]
        exact Ev.pure
    · rw [show xs.length + 1 = (xs ++ [y]).length by simp]
      exact ev_mFor hd h28 ha had fs ep ys (xs ++ [y]) (T.set d (Obj.mapDictKeys (·.push y))) (es.push y) (e + 1) (by rw [hf]; simp) (get_same hg) (by rw [get_other had]; exact hga) (by rw [Array.size_push]; omega)
        (fun z hz => hk z (List.mem_cons_of_mem _ hz))
        (fun z hz q hq => by
          rcases Array.mem_push.mp hz with hz | rfl
          · exact hm z hz q (List.mem_cons_of_mem _ hq)
          · exact (List.pairwise_cons.mp hp).1 q hq) (List.pairwise_cons.mp hp).2
theorem ev_merge {D : Pos} {d a n t : Nat} (hd : d < n) (h28 : 28 ≤ d) (ha : a < n) (ha28 : 28 ≤ a) (had : a ≠ d) (ys : List DictEntry) (ep : Nat) (T : BT) (es : Array DictEntry) (e : Nat)
    (hne : es.isEmpty = false) (hg : T.get d = some (dO es e)) (hga : T.get a = some (dO ys.toArray ep)) (hs : es.size + ys.length < 100000) (hk : ∀ y ∈ ys, ∃ x k, y.key = .int x k ∧ y.hash = x)
    (hm : ∀ z ∈ es, ∀ y ∈ ys, z.hash ≠ y.hash) (hp : ys.Pairwise (fun p q => p.hash ≠ q.hash)) :
    Ev pw w (cE bd env) (6 * ys.length + 5) (sT os T n t) D (mergeMapping d (.ref a) false) () (sT os (pushAll d T ys) n t) D := by
  have hsm : (a == sysModules) = false := by simp [sysModules]; omega
  unfold mergeMapping
  refine Ev.bind (B := 1) (B' := 6 * ys.length + 4) (ev_plain ha hga) ?_
  refine Ev.bind (B := 1) (B' := 6 * ys.length + 3) (ev_iter ha hga) ?_
  have hb : ((some (Value.builtin "dict.__iter__") : Option Value) == some (.builtin "dict.__iter__")) = true := by kernel_rfl
  refine Ev.bind (B := 0) (B' := 6 * ys.length + 3) Ev.pure ?_
  simp only [hb, hsm]
  refine Ev.bind (B := 1) (B' := 6 * ys.length + 2) (ev_entries hd hg) ?_
  simp only [hne]
  refine Ev.bind (B := 1) (B' := 6 * ys.length + 1) (ev_entries ha hga) ?_
  refine Ev.bind (B := 1) (B' := 6 * ys.length) (ev_epoch ha hga) ?_
  refine Ev.le (B := 0 + 6 * ys.length) (Ev.bind (a := PUnit.unit) (s' := sT os (pushAll d T ys) n t) (p' := D) ?_ Ev.pure) (by omega)
  have := ev_mFor (pw := pw) (w := w) (os := os) (bd := bd) (env := env) (D := D) (t := t) hd h28 ha had ys.toArray ep ys [] T es e rfl hg hga hs hk hm hp
  rw [List.length_nil] at this
  rw [List.range_eq_range']
  exact this
end
end Mine

end
section
open PySem PySem.W PyProof.Rows
set_option Elab.async false
set_option maxRecDepth 100000
set_option linter.unusedVariables false
namespace Mine
noncomputable def entsAt2 : Nat → List (Int × Str) → List DictEntry
  | _, [] => []
  | t, (i, x) :: r => ⟨i, .int i t, .str x (t + 1)⟩ :: entsAt2 (t + 2) r
noncomputable def prsAt2 : Nat → List (Int × Str) → List (Value × Value)
  | _, [] => []
  | t, (i, x) :: r => (.int i t, .str x (t + 1)) :: prsAt2 (t + 2) r
noncomputable def Full (T : BT) (n : Nat) : Prop := ∀ m < n, (T.get m).isSome = true
theorem Full.room {o : Obj} : ∀ {T : BT} {n : Nat}, Full T n → ((T.ins n o).get n).isSome = true
  | .nil, n, h => by
    have : n = 0 := by
      cases n with
      | zero => rfl
      | succ n => have := h 0 (by omega); simp [BT.get] at this
    subst this
    rfl
  | .node v l r, n, h => by
    rw [BT.ins_node]
    by_cases h0 : n = 0
    · subst h0; simp [BT.get_node]
    · rw [if_neg h0]
      by_cases h1 : n % 2 = 1
      · rw [if_pos h1, BT.get_node, if_neg h0, if_pos h1]
        refine Full.room (T := l) (n := n / 2) (fun m hm => ?_)
        have := h (2 * m + 1) (by omega)
        rw [BT.get_node, if_neg (by omega), if_pos (by omega), show (2 * m + 1) / 2 = m by omega] at this
        exact this
      · rw [if_neg h1, BT.get_node, if_neg h0, if_neg h1]
        refine Full.room (T := r) (n := n / 2 - 1) (fun m hm => ?_)
        have := h (2 * m + 2) (by omega)
        rw [BT.get_node, if_neg (by omega), if_neg (by omega), show (2 * m + 2) / 2 - 1 = m by omega] at this
        exact this
theorem Full.ins {T : BT} {n : Nat} {o : Obj} (h : Full T n) : Full (T.ins n o) (n + 1) := fun m hm => by
  rw [BT.get_ins o T n h.room]
  by_cases e : m = n
  · rw [if_pos e]; rfl
  · rw [if_neg e]; exact h m (by omega)
theorem Full.set {T : BT} {n d : Nat} {f : Obj → Obj} (h : Full T n) : Full (T.set d f) n := fun m hm => by
  rw [BT.get_set]
  by_cases e : m = d
  · rw [if_pos e, Option.isSome_map, ← e]; exact h m hm
  · rw [if_neg e]; exact h m hm
theorem Full.pushAll {n d : Nat} : ∀ (l : List DictEntry) {T : BT}, Full T n → Full (pushAll d T l) n
  | [], T, h => h
  | y :: l, T, h => by rw [Mine.pushAll]; exact Full.pushAll l h.set

section
variable {pw : Program} {w : World} {os : OsState} {bd : List Stmt} {env : Env}
theorem ev_evalPairs {D : Pos} {T : BT} {n : Nat} : ∀ (c : List (Int × Str)) (t : Nat),
    Ev pw w (cE bd env) (3 * c.length) (sT os T n t) D (evalPairs (c.map (pr D))) (prsAt2 t c) (sT os T n (t + 2 * c.length)) D
  | [], t => Ev.pure
  | (i, x) :: r, t => by
    rw [List.map_cons]
    unfold evalPairs
    refine Ev.le (B := 3 * r.length + 3) ?_ (by simp only [List.length_cons]; omega)
    refine Ev.bind (B := 1) (B' := 3 * r.length + 2) ev_pr1 ?_
    refine Ev.bind (B := 2) (B' := 3 * r.length) (Ev.holding ev_pr2) ?_
    refine Ev.le (B := 0 + 3 * r.length) ?_ (by omega)
    refine Ev.bind (Ev.holding (ev_evalPairs r (t + 2))) ?_
    rw [show t + 2 + 2 * r.length = t + 2 * (r.length + 1) by omega]
    exact Ev.pure
noncomputable def shFor (d : Addr) (l : List (Value × Value)) (b : PUnit) : Sem PUnit := forIn l b fun x _ => match x with
  | (k, v) => do
    dictSet d k v
    pure (ForInStep.yield PUnit.unit)
theorem ev_shFor {D : Pos} {d n : Nat} (hd : d < n) (h28 : 28 ≤ d) : ∀ (c : List (Int × Str)) (T : BT) (t u : Nat) (fs : Array DictEntry) (e : Nat), T.get d = some (dO fs e) → fs.size + c.length < 100000 →
    (∀ q ∈ c, 0 ≤ q.1 ∧ q.1 < 2 ^ 60) → (∀ a ∈ fs, ∀ q ∈ c, a.hash ≠ q.1) → c.Pairwise (fun a b => a.1 < b.1) →
    Ev pw w (cE bd env) (10 * c.length) (sT os T n u) D (shFor d (prsAt2 t c) PUnit.unit) PUnit.unit (sT os (pushAll d T (entsAt2 t c)) n (u + c.length)) D
  | [], T, t, u, fs, e, hg, hs, hb, hm, hp => Ev.pure
  | (i, x) :: r, T, t, u, fs, e, hg, hs, hb, hm, hp => by
    have hb0 := hb (i, x) List.mem_cons_self
    rw [prsAt2]
    unfold shFor
    rw [List.forIn_cons]
    simp only [List.length_cons] at hs ⊢
    refine Ev.le (B := 10 * r.length + 10) (Ev.bind (s' := sT os (T.set d (Obj.mapDictKeys (·.push ⟨i, .int i t, .str x (t + 1)⟩))) n (u + 1)) (p' := D) (a := ForInStep.yield PUnit.unit) ?_ ?_) (by omega)
    · refine Ev.bind (ev_set hd h28 hg (by omega) hb0.1 hb0.2 (fun a ha => hm a ha _ List.mem_cons_self)) ?_
      exact Ev.pure
    · rw [show u + (r.length + 1) = u + 1 + r.length by omega]
      exact ev_shFor hd h28 r (T.set d (Obj.mapDictKeys (·.push ⟨i, .int i t, .str x (t + 1)⟩))) (t + 2) (u + 1) (fs.push ⟨i, .int i t, .str x (t + 1)⟩) (e + 1) (get_same hg) (by rw [Array.size_push]; omega)
        (fun q hq => hb q (List.mem_cons_of_mem _ hq)) (fun a ha q hq => by
          rcases Array.mem_push.mp ha with ha | rfl
          · exact hm a ha q (List.mem_cons_of_mem _ hq)
          · have := (List.pairwise_cons.mp hp).1 q hq
            exact fun e => by have e : i = q.1 := e; omega) (List.pairwise_cons.mp hp).2
theorem ev_subShort {D : Pos} {n : Nat} (h28 : 28 ≤ n) (c : List (Int × Str)) (T : BT) (t : Nat) (hT : ((T.ins n (dO #[] 0)).get n).isSome = true) (hl : c.length ≤ 15)
    (hb : ∀ q ∈ c, 0 ≤ q.1 ∧ q.1 < 2 ^ 60) (hp : c.Pairwise (fun a b => a.1 < b.1)) :
    Ev pw w (cE bd env) (13 * c.length + 1) (sT os T n t) D (subDict (c.map (pr D))) n (sT os (pushAll n (T.ins n (dO #[] 0)) (entsAt2 t c)) (n + 1) (t + 3 * c.length)) D := by
  unfold subDict
  have hl' : (c.map (pr D)).length ≤ 15 := by rw [List.length_map]; exact hl
  simp only [if_pos hl']
  refine Ev.bind (B := 1) (B' := 13 * c.length) (Ev.alloc hT Ev.pure) ?_
  refine Ev.le (B := 0 + 13 * c.length) (Ev.bind (a := ()) (Ev.holding ?_) Ev.pure) (by omega)
  refine Ev.le (B := 10 * c.length + 3 * c.length) (Ev.bind (ev_evalPairs c t) (Ev.holding ?_)) (by omega)
  have := ev_shFor (pw := pw) (w := w) (os := os) (bd := bd) (env := env) (D := D) (d := n) (n := n + 1) (by omega) h28 c (T.ins n (dO #[] 0)) t (t + 2 * c.length) #[] 0 (ins_get hT) (by simp; omega) hb (fun a ha => by simp at ha) hp
  rw [show t + 2 * c.length + c.length = t + 3 * c.length by omega] at this
  exact Ev.le (Ev.bind this Ev.pure) (by omega)
end
end Mine

end
section
open PySem PySem.W PyProof.Rows
set_option Elab.async false
set_option maxRecDepth 100000
set_option linter.unusedVariables false
namespace Mine
noncomputable abbrev it (D : Pos) (q : Int × Str) : Option (Sem Value) × Sem Value := (some (pr D q).1, (pr D q).2)
noncomputable abbrev Run := List (Sem Value × Sem Value)
noncomputable def flushD (run : Run) (main : Option Addr) : Sem (Option Addr) := do
    if run.isEmpty then return main
    match main with
    | none => return some (← subDict run)
    | some d =>
      let sub ← holding [.ref d] (subDict run)
      (holding [.ref d, .ref sub] (mergeMapping d (.ref sub) false)).onRaise fun x => do let _ ← holding [.ref d, x] (runValue (.builtin "proto.let_go" {}))
      return some d
noncomputable abbrev DSt := Option Addr × Run
section
variable (f : Option (Sem Value) × Sem Value → DSt → Sem (ForInStep DSt))
noncomputable def BodyIs : Prop := ∀ k v m r, f (some k, v) ⟨m, r⟩ = if ((r ++ [(k, v)]).length == 17) = true then (flushD (r ++ [(k, v)]) m).bind fun m' => .pure (.yield ⟨m', []⟩) else .pure (.yield ⟨m, r ++ [(k, v)]⟩)
variable {f}
theorem pend (hf : BodyIs f) {D : Pos} {m : Option Addr} {rest : List (Option (Sem Value) × Sem Value)} : ∀ (c : List (Int × Str)) (r : Run), c ≠ [] → r.length + c.length = 17 →
    forIn (c.map (it D) ++ rest) (⟨m, r⟩ : DSt) f = (flushD (r ++ c.map (pr D)) m).bind fun m' => forIn rest (⟨m', []⟩ : DSt) f
  | [], r, h, hl => absurd rfl h
  | [q], r, h, hl => by
    simp only [List.length_singleton] at hl
    have : (((r ++ [pr D q]).length == 17) = true) := by simp; omega
    rw [List.map_singleton, List.map_singleton, List.singleton_append, List.forIn_cons, hf, if_pos this]
    show ((flushD (r ++ [pr D q]) m).bind fun m' => Sem.pure (ForInStep.yield (⟨m', []⟩ : DSt))).bind _ = _
    rw [Sem.bind_eq_wrap, Sem.bind_eq_wrap, Sem.wrap_wrap, Sem.bind_eq_wrap]
    rfl
  | q :: q' :: c, r, h, hl => by
    simp only [List.length_cons] at hl
    have : ¬ (((r ++ [pr D q]).length == 17) = true) := by simp; omega
    rw [List.map_cons, List.map_cons, List.cons_append, List.forIn_cons, hf, if_neg this]
    show forIn ((q' :: c).map (it D) ++ rest) (⟨m, r ++ [pr D q]⟩ : DSt) f = _
    rw [pend hf (q' :: c) (r ++ [pr D q]) (by simp) (by simp; omega)]
    rw [List.append_assoc]
    rfl
theorem pendRest (hf : BodyIs f) {D : Pos} {m : Option Addr} : ∀ (c : List (Int × Str)) (r : Run), r.length + c.length < 17 →
    forIn (c.map (it D)) (⟨m, r⟩ : DSt) f = .pure ⟨m, r ++ c.map (pr D)⟩
  | [], r, hl => by simp; rfl
  | q :: c, r, hl => by
    simp only [List.length_cons] at hl
    have : ¬ (((r ++ [pr D q]).length == 17) = true) := by simp; omega
    rw [List.map_cons, List.forIn_cons, hf, if_neg this]
    show forIn (c.map (it D)) (⟨m, r ++ [pr D q]⟩ : DSt) f = _
    rw [pendRest hf c (r ++ [pr D q]) (by simp; omega), List.append_assoc]
    rfl
end
-- the tree, chunk by chunk
noncomputable def chunkT (d : Nat) (T : BT) (n t : Nat) (c : List (Int × Str)) : BT := pushAll d (pushAll n (T.ins n (dO #[] 0)) (entsAt3 t c)) (entsAt3 t c)
noncomputable def chunksT (d : Nat) : BT → Nat → Nat → List (List (Int × Str)) → BT
  | T, _, _, [] => T
  | T, n, t, c :: cs => chunksT d (chunkT d T n t c) (n + 1) (t + 51) cs
theorem asc_hash {c : List (Int × Str)} (h : c.Pairwise (fun a b => a.1 < b.1)) : ∀ t, (entsAt3 t c).Pairwise (fun p q => p.hash ≠ q.hash) := by
  induction c with
  | nil => intro t; exact .nil
  | cons q c ih =>
    intro t
    obtain ⟨i, x⟩ := q
    rw [List.pairwise_cons] at h
    rw [entsAt3, List.pairwise_cons]
    refine ⟨fun a ha => ?_, ih h.2 _⟩
    obtain ⟨q, hq, e⟩ := entsAt3_hash _ _ _ ha
    have := h.1 q hq
    rw [e]
    exact fun e => by have e : i = q.1 := e; have : i < q.1 := this; omega
theorem asc_hash2 {c : List (Int × Str)} (h : c.Pairwise (fun a b => a.1 < b.1)) : ∀ t, (entsAt2 t c).Pairwise (fun p q => p.hash ≠ q.hash) ∧ ∀ a ∈ entsAt2 t c, ∃ q ∈ c, a.hash = q.1 := by
  induction c with
  | nil => intro t; exact ⟨.nil, fun a h => by cases h⟩
  | cons q c ih =>
    intro t
    obtain ⟨i, x⟩ := q
    rw [List.pairwise_cons] at h
    have ih := ih h.2 (t + 2)
    rw [entsAt2, List.pairwise_cons]
    refine ⟨⟨fun a ha => ?_, ih.1⟩, fun a ha => ?_⟩
    · obtain ⟨q, hq, e⟩ := ih.2 _ ha
      have := h.1 q hq
      rw [e]
      exact fun e => by have e : i = q.1 := e; have : i < q.1 := this; omega
    · rcases List.mem_cons.mp ha with rfl | ha
      · exact ⟨_, List.mem_cons_self, rfl⟩
      · obtain ⟨q, hq, e⟩ := ih.2 _ ha
        exact ⟨q, List.mem_cons_of_mem _ hq, e⟩
theorem entsAt3_key : ∀ (t : Nat) (l : List (Int × Str)) (a : DictEntry), a ∈ entsAt3 t l → ∃ x k, a.key = .int x k ∧ a.hash = x
  | t, [], a, h => by cases h
  | t, (i, x) :: r, a, h => by
    rcases List.mem_cons.mp h with rfl | h
    · exact ⟨_, _, rfl, rfl⟩
    · exact entsAt3_key _ r a h
theorem entsAt2_key : ∀ (t : Nat) (l : List (Int × Str)) (a : DictEntry), a ∈ entsAt2 t l → ∃ x k, a.key = .int x k ∧ a.hash = x
  | t, [], a, h => by cases h
  | t, (i, x) :: r, a, h => by
    rcases List.mem_cons.mp h with rfl | h
    · exact ⟨_, _, rfl, rfl⟩
    · exact entsAt2_key _ r a h
theorem entsAt2_len : ∀ (t : Nat) (l : List (Int × Str)), (entsAt2 t l).length = l.length
  | t, [] => rfl
  | t, (i, x) :: r => by simp [entsAt2, entsAt2_len]
section
variable {pw : Program} {w : World} {os : OsState} {bd : List Stmt} {env : Env}
theorem ev_flushMain {D : Pos} {d n t : Nat} {T : BT} {es : Array DictEntry} {e : Nat} {run : Run} {ys : List DictEntry} {t' : Nat} (hr : run.isEmpty = false) (hd : d < n) (h28 : 28 ≤ d) (hF : Full T n)
    (hg : T.get d = some (dO es e)) (hne : es.isEmpty = false) (hs : es.size + ys.length < 100000) (hk : ∀ y ∈ ys, ∃ x k, y.key = .int x k ∧ y.hash = x)
    (hm : ∀ z ∈ es, ∀ y ∈ ys, z.hash ≠ y.hash) (hp : ys.Pairwise (fun p q => p.hash ≠ q.hash))
    {B : Nat} (hsub : Ev pw w (cE bd env) B (sT os T n t) D (subDict run) n (sT os (pushAll n (T.ins n (dO #[] 0)) ys) (n + 1) t') D) :
    Ev pw w (cE bd env) (6 * ys.length + 5 + B) (sT os T n t) D (flushD run (some d)) (some d) (sT os (pushAll d (pushAll n (T.ins n (dO #[] 0)) ys) ys) (n + 1) t') D := by
  unfold flushD
  simp only [hr]
  refine Ev.bind (B := B) (B' := 6 * ys.length + 5) (Ev.holding hsub) ?_
  have g1 : (pushAll n (T.ins n (dO #[] 0)) ys).get d = some (dO es e) := by rw [pushAll_other (by omega), ins_other hF.room (by omega)]; exact hg
  have g2 : (pushAll n (T.ins n (dO #[] 0)) ys).get n = some (dO ys.toArray (0 + ys.length)) := by
    have := pushAll_same ys (T.ins n (dO #[] 0)) #[] 0 (ins_get hF.room)
    simpa using this
  refine Ev.le (B := 0 + (6 * ys.length + 5)) ?_ (by omega)
  refine Ev.bind (Ev.onRaise (Ev.holding (ev_merge (by omega) h28 (by omega) (by omega) (by omega) ys _ _ es e hne g1 g2 hs hk hm hp))) ?_
  exact Ev.pure
variable {f : Option (Sem Value) × Sem Value → DSt → Sem (ForInStep DSt)}
theorem ev_chunks (hf : BodyIs f) {D : Pos} {d : Nat} (h28 : 28 ≤ d) {rest : List (Option (Sem Value) × Sem Value)} {R : DSt} {s' : SharedT} {p' : Pos} {B : Nat} : ∀ (cs : List (List (Int × Str))) (T : BT) (n t : Nat) (es : List DictEntry) (e : Nat),
    d < n → Full T n → T.get d = some (dO es.toArray e) → es ≠ [] → es.length + 17 * cs.length < 100000 → (∀ c ∈ cs, c.length = 17) → (∀ c ∈ cs, ∀ q ∈ c, 0 ≤ q.1 ∧ q.1 < 2 ^ 60) →
    (∀ c ∈ cs, c.Pairwise (fun a b => a.1 < b.1)) → (∀ z ∈ es, ∀ c ∈ cs, ∀ q ∈ c, z.hash < q.1) → cs.Pairwise (fun a b => ∀ p ∈ a, ∀ q ∈ b, p.1 < q.1) →
    (∀ (es' : List DictEntry) (e' : Nat), (chunksT d T n t cs).get d = some (dO es'.toArray e') → es' ≠ [] → Full (chunksT d T n t cs) (n + cs.length) → es'.length = es.length + 17 * cs.length →
      (∀ z ∈ es', z ∈ es ∨ ∃ c ∈ cs, ∃ q ∈ c, z.hash = q.1) →
      Ev pw w (cE bd env) B (sT os (chunksT d T n t cs) (n + cs.length) (t + 51 * cs.length)) D (forIn rest (⟨some d, []⟩ : DSt) f) R s' p') →
    Ev pw w (cE bd env) (330 * cs.length + B) (sT os T n t) D (forIn (cs.flatMap (fun c => c.map (it D)) ++ rest) (⟨some d, []⟩ : DSt) f) R s' p'
  | [], T, n, t, es, e, hd, hF, hg, hne, hs, hl, hb, hp, hm, hcc, h => Ev.le (h es e hg hne hF (by simp) (fun z hz => .inl hz)) (by omega)
  | c :: cs, T, n, t, es, e, hd, hF, hg, hne, hs, hl, hb, hp, hm, hcc, h => by
    have l17 := hl c List.mem_cons_self
    have hpc := hp c List.mem_cons_self
    simp only [List.length_cons] at hs
    rw [List.flatMap_cons, List.append_assoc, pend hf c [] (by intro q; rw [q] at l17; cases l17) (by simpa using l17), List.nil_append]
    have hrun : (c.map (pr D)).isEmpty = false := by
      cases c with
      | nil => cases l17
      | cons => rfl
    have hsub := ev_subDict (pw := pw) (w := w) (os := os) (bd := bd) (env := env) (D := D) (n := n) (by omega) c T t hF.room (by omega) (by omega) (hb c List.mem_cons_self) hpc
    have hmem : ∀ a ∈ entsAt3 t c, ∃ q ∈ c, a.hash = q.1 := fun a ha => entsAt3_hash _ _ _ ha
    refine Ev.le (B := (330 * cs.length + B) + (6 * (entsAt3 t c).length + 5 + (13 * c.length + 2))) ?_ (by rw [entsAt3_len, l17, List.length_cons]; omega)
    refine Ev.bind (ev_flushMain hrun hd h28 hF hg (by cases es with | nil => exact absurd rfl hne | cons => rfl) (by rw [entsAt3_len]; simp; omega) (entsAt3_key t c)
      (fun z hz y hy => by
        obtain ⟨q, hq, e⟩ := hmem y hy
        have := hm z (by simpa using hz) c List.mem_cons_self q hq
        rw [e]; omega) (asc_hash hpc t) hsub) ?_
    have g1 : (pushAll n (T.ins n (dO #[] 0)) (entsAt3 t c)).get d = some (dO es.toArray e) := by rw [pushAll_other (by omega), ins_other hF.room (by omega)]; exact hg
    have g2 := pushAll_same (entsAt3 t c) _ _ _ g1
    rw [List.append_toArray] at g2
    rw [l17]
    refine ev_chunks hf h28 cs (chunkT d T n t c) (n + 1) (t + 51) (es ++ entsAt3 t c) _ (by omega) ((hF.ins.pushAll _).pushAll _) g2 (by simp [hne]) (by rw [List.length_append, entsAt3_len]; omega)
      (fun a ha => hl a (List.mem_cons_of_mem _ ha)) (fun a ha => hb a (List.mem_cons_of_mem _ ha)) (fun a ha => hp a (List.mem_cons_of_mem _ ha))
      (fun z hz a ha q hq => by
        rcases List.mem_append.mp hz with hz | hz
        · exact hm z hz a (List.mem_cons_of_mem _ ha) q hq
        · obtain ⟨q', hq', e⟩ := hmem z hz
          rw [e]
          exact (List.pairwise_cons.mp hcc).1 a ha q' hq' q hq) (List.pairwise_cons.mp hcc).2
      (fun es' e' k1 k2 k3 k4 k5 => ?_)
    have := h es' e' k1 k2 (by rw [List.length_cons, show n + (cs.length + 1) = n + 1 + cs.length by omega]; exact k3)
      (by rw [k4, List.length_append, entsAt3_len, List.length_cons]; omega)
      (fun z hz => by
        rcases k5 z hz with hz | ⟨a, ha, q, hq, e⟩
        · rcases List.mem_append.mp hz with hz | hz
          · exact .inl hz
          · obtain ⟨q', hq', e⟩ := hmem z hz
            exact .inr ⟨c, List.mem_cons_self, q', hq', e⟩
        · exact .inr ⟨a, List.mem_cons_of_mem _ ha, q, hq, e⟩)
    rw [List.length_cons, show n + (cs.length + 1) = n + 1 + cs.length by omega, show t + 51 * (cs.length + 1) = t + 51 + 51 * cs.length by omega] at this
    exact this
end
end Mine

end
section
open PySem PySem.W PyProof.Rows
set_option Elab.async false
set_option maxRecDepth 100000
set_option linter.unusedVariables false
namespace Mine
theorem chunks_facts {d : Nat} : ∀ (cs : List (List (Int × Str))) (T : BT) (n t : Nat) (es : List DictEntry) (e : Nat), d < n → Full T n → T.get d = some (dO es.toArray e) → es ≠ [] → (∀ c ∈ cs, c.length = 17) →
    ∃ (es' : List DictEntry) (e' : Nat), (chunksT d T n t cs).get d = some (dO es'.toArray e') ∧ es' ≠ [] ∧ Full (chunksT d T n t cs) (n + cs.length) ∧ es'.length = es.length + 17 * cs.length ∧
      ∀ z ∈ es', z ∈ es ∨ ∃ c ∈ cs, ∃ q ∈ c, z.hash = q.1
  | [], T, n, t, es, e, hd, hF, hg, hne, hl => ⟨es, e, hg, hne, hF, by simp, fun z hz => .inl hz⟩
  | c :: cs, T, n, t, es, e, hd, hF, hg, hne, hl => by
    have l17 := hl c List.mem_cons_self
    have g1 : (pushAll n (T.ins n (dO #[] 0)) (entsAt3 t c)).get d = some (dO es.toArray e) := by rw [pushAll_other (by omega), ins_other hF.room (by omega)]; exact hg
    have g2 := pushAll_same (entsAt3 t c) _ _ _ g1
    rw [List.append_toArray] at g2
    obtain ⟨es', e', k1, k2, k3, k4, k5⟩ := chunks_facts cs (chunkT d T n t c) (n + 1) (t + 51) (es ++ entsAt3 t c) _ (by omega) ((hF.ins.pushAll _).pushAll _) g2 (by simp [hne]) (fun a ha => hl a (List.mem_cons_of_mem _ ha))
    refine ⟨es', e', k1, k2, by rw [List.length_cons, show n + (cs.length + 1) = n + 1 + cs.length by omega]; exact k3, by rw [k4, List.length_append, entsAt3_len, List.length_cons]; omega, fun z hz => ?_⟩
    rcases k5 z hz with hz | ⟨a, ha, q, hq, e⟩
    · rcases List.mem_append.mp hz with hz | hz
      · exact .inl hz
      · obtain ⟨q', hq', e⟩ := entsAt3_hash _ _ _ hz
        exact .inr ⟨c, List.mem_cons_self, q', hq', e⟩
    · exact .inr ⟨a, List.mem_cons_of_mem _ ha, q, hq, e⟩
section
variable {pw : Program} {w : World} {os : OsState} {bd : List Stmt} {env : Env}
noncomputable def finT (T : BT) (n t : Nat) (c0 : List (Int × Str)) (cs : List (List (Int × Str))) (last : List (Int × Str)) : BT :=
  let T2 := chunksT n (pushAll n (T.ins n (dO #[] 0)) (entsAt3 t c0)) (n + 1) (t + 51) cs
  pushAll n (pushAll (n + 1 + cs.length) (T2.ins (n + 1 + cs.length) (dO #[] 0)) (entsAt2 (t + 51 + 51 * cs.length) last)) (entsAt2 (t + 51 + 51 * cs.length) last)
theorem ev_disp {B B' : Nat} {s s1 s2 : SharedT} {p p1 p2 : Pos} {items : List (Option (Sem Value) × Sem Value)} {m : Option Addr} {r : Run} {d : Addr}
    (h : ∀ f, BodyIs f → Ev pw w (cE bd env) B s p (forIn items ((none, []) : DSt) f) (m, r) s1 p1) (k : Ev pw w (cE bd env) B' s1 p1 (flushD r m) (some d) s2 p2) :
    Ev pw w (cE bd env) (B' + B) s p (dictDisplay items) (.ref d) s2 p2 := by
  unfold dictDisplay
  dsimp only
  refine Ev.bind (h _ (fun k v m r => by kernel_rfl)) ?_
  exact Ev.le (Ev.bind k Ev.pure) (by omega)
theorem ev_display {D : Pos} {T : BT} {n t : Nat} (h28 : 28 ≤ n) (hF : Full T n) (c0 : List (Int × Str)) (cs : List (List (Int × Str))) (last : List (Int × Str)) (l0 : c0.length = 17) (hl : ∀ c ∈ cs, c.length = 17)
    (hlast : last ≠ []) (hlast2 : last.length ≤ 15) (hsz : 17 * cs.length < 90000) (hb0 : ∀ q ∈ c0, 0 ≤ q.1 ∧ q.1 < 2 ^ 60) (hb : ∀ c ∈ cs, ∀ q ∈ c, 0 ≤ q.1 ∧ q.1 < 2 ^ 60) (hb2 : ∀ q ∈ last, 0 ≤ q.1 ∧ q.1 < 2 ^ 60)
    (hp0 : c0.Pairwise (fun a b => a.1 < b.1)) (hp : ∀ c ∈ cs, c.Pairwise (fun a b => a.1 < b.1)) (hp2 : last.Pairwise (fun a b => a.1 < b.1))
    (h01 : ∀ p ∈ c0, ∀ c ∈ cs, ∀ q ∈ c, p.1 < q.1) (hcc : cs.Pairwise (fun a b => ∀ p ∈ a, ∀ q ∈ b, p.1 < q.1)) (h02 : ∀ p ∈ c0, ∀ q ∈ last, p.1 < q.1) (h12 : ∀ c ∈ cs, ∀ p ∈ c, ∀ q ∈ last, p.1 < q.1) :
    Ev pw w (cE bd env) (330 * cs.length + 600) (sT os T n t) D (dictDisplay (c0.map (it D) ++ (cs.flatMap (fun c => c.map (it D)) ++ last.map (it D)))) (.ref n)
      (sT os (finT T n t c0 cs last) (n + 1 + cs.length + 1) (t + 51 + 51 * cs.length + 3 * last.length)) D := by
  have hsub := ev_subDict (pw := pw) (w := w) (os := os) (bd := bd) (env := env) (D := D) (n := n) h28 c0 T t hF.room (by omega) (by omega) hb0 hp0
  have e51 : t + 3 * c0.length = t + 51 := by omega
  rw [e51] at hsub
  have g1 : (pushAll n (T.ins n (dO #[] 0)) (entsAt3 t c0)).get n = some (dO (entsAt3 t c0).toArray (0 + (entsAt3 t c0).length)) := by
    have := pushAll_same (entsAt3 t c0) (T.ins n (dO #[] 0)) #[] 0 (ins_get hF.room)
    simpa using this
  have e0 : entsAt3 t c0 ≠ [] := fun q => by have := entsAt3_len t c0; rw [q, l0] at this; cases this
  refine Ev.le (B := 300 + (330 * cs.length + 300)) ?_ (by omega)
  refine ev_disp (m := some n) (r := last.map (pr D)) (s1 := sT os (chunksT n (pushAll n (T.ins n (dO #[] 0)) (entsAt3 t c0)) (n + 1) (t + 51) cs) (n + 1 + cs.length) (t + 51 + 51 * cs.length)) (p1 := D) ?_ ?_
  · intro f hf
    rw [pend hf c0 [] (by intro q; rw [q] at l0; cases l0) (by simpa using l0), List.nil_append]
    have hrun : (c0.map (pr D)).isEmpty = false := by
      cases c0 with
      | nil => cases l0
      | cons => rfl
    refine Ev.le (B := (330 * cs.length + 0) + (13 * c0.length + 2)) ?_ (by omega)
    refine Ev.bind (a := some n) (s' := sT os (pushAll n (T.ins n (dO #[] 0)) (entsAt3 t c0)) (n + 1) (t + 51)) (p' := D) ?_ ?_
    · unfold flushD
      simp only [hrun]
      exact Ev.le (Ev.bind hsub Ev.pure) (by omega)
    · refine ev_chunks hf h28 cs _ _ _ (entsAt3 t c0) _ (by omega) (hF.ins.pushAll _) g1 e0 (by rw [entsAt3_len]; omega) hl hb hp ?_ hcc ?_
      · intro z hz c hc q hq
        obtain ⟨q', hq', e⟩ := entsAt3_hash _ _ _ hz
        rw [e]; exact h01 q' hq' c hc q hq
      · intro es' e' k1 k2 k3 k4 k5
        rw [pendRest hf last [] (by simp; omega)]
        exact Ev.pure
  · have hl1 : (last.map (pr D)).isEmpty = false := by
      cases last with
      | nil => exact absurd rfl hlast
      | cons => rfl
    obtain ⟨es', e', k1, k2, k3, k4, k5⟩ := chunks_facts cs (pushAll n (T.ins n (dO #[] 0)) (entsAt3 t c0)) (n + 1) (t + 51) (entsAt3 t c0) _ (by omega) (hF.ins.pushAll _) g1 e0 hl
    have hs2 := ev_subShort (pw := pw) (w := w) (os := os) (bd := bd) (env := env) (D := D) (n := n + 1 + cs.length) (by omega) last (chunksT n (pushAll n (T.ins n (dO #[] 0)) (entsAt3 t c0)) (n + 1) (t + 51) cs) (t + 51 + 51 * cs.length) k3.room hlast2 hb2 hp2
    have hh := asc_hash2 hp2 (t + 51 + 51 * cs.length)
    refine Ev.le (B := 6 * (entsAt2 (t + 51 + 51 * cs.length) last).length + 5 + (13 * last.length + 1)) ?_ (by rw [entsAt2_len]; omega)
    exact ev_flushMain hl1 (by omega) h28 k3 k1 (by cases es' with | nil => exact absurd rfl k2 | cons => rfl) (by rw [entsAt2_len, List.size_toArray, k4, entsAt3_len]; omega) (entsAt2_key _ _)
      (fun z hz y hy => by
        obtain ⟨q, hq, e⟩ := hh.2 y hy
        rw [e]
        rcases k5 z (by simpa using hz) with hz | ⟨c, hc, q', hq', e2⟩
        · obtain ⟨q', hq', e2⟩ := entsAt3_hash _ _ _ hz
          have := h02 q' hq' q hq
          rw [e2]; omega
        · have := h12 c hc q' hq' q hq
          rw [e2]; omega) hh.1 hs2
end
end Mine

end
section
open PySem PySem.W PyProof.Rows
set_option Elab.async false
set_option maxRecDepth 100000
set_option linter.unusedVariables false
namespace Mine
noncomputable def stm (i : Nat) : List Stmt := (pw.main.body.drop i).take 1
noncomputable def treeOf (l : List Obj) : BT := (l.foldl (fun (x : BT × Nat) o => (x.1.ins x.2 o, x.2 + 1)) (BT.nil, 0)).1
noncomputable def h0se (P : Params) : Obj := ⟨(.type "dict"), none, (.dict #[⟨H P (S "__name__"), .str (S "__name__") 1, (.str (S "builtins") 160)⟩, ⟨H P (S "__doc__"), .str (S "__doc__") 2, (.builtin "builtins.__doc__:str#opaque")⟩, ⟨H P (S "__package__"), .str (S "__package__") 3, (.builtin "builtins.__package__:str#opaque")⟩, ⟨H P (S "__loader__"), .str (S "__loader__") 4, (.builtin "builtins.__loader__:shared#opaque")⟩, ⟨H P (S "__spec__"), .str (S "__spec__") 5, (.builtin "builtins.__spec__#opaque")⟩, ⟨H P (S "__build_class__"), .str (S "__build_class__") 6, (.builtin "__build_class__")⟩, ⟨H P (S "__import__"), .str (S "__import__") 7, (.builtin "__import__")⟩, ⟨H P (S "abs"), .str (S "abs") 8, (.builtin "abs")⟩, ⟨H P (S "all"), .str (S "all") 9, (.builtin "all")⟩, ⟨H P (S "any"), .str (S "any") 10, (.builtin "any")⟩, ⟨H P (S "ascii"), .str (S "ascii") 11, (.builtin "ascii")⟩, ⟨H P (S "bin"), .str (S "bin") 12, (.builtin "bin")⟩, ⟨H P (S "breakpoint"), .str (S "breakpoint") 13, (.builtin "breakpoint")⟩, ⟨H P (S "callable"), .str (S "callable") 14, (.builtin "callable")⟩, ⟨H P (S "chr"), .str (S "chr") 15, (.builtin "chr")⟩, ⟨H P (S "compile"), .str (S "compile") 16, (.builtin "compile")⟩, ⟨H P (S "delattr"), .str (S "delattr") 17, (.builtin "delattr")⟩, ⟨H P (S "dir"), .str (S "dir") 18, (.builtin "dir")⟩, ⟨H P (S "divmod"), .str (S "divmod") 19, (.builtin "divmod")⟩, ⟨H P (S "eval"), .str (S "eval") 20, (.builtin "eval")⟩, ⟨H P (S "exec"), .str (S "exec") 21, (.builtin "exec")⟩, ⟨H P (S "format"), .str (S "format") 22, (.builtin "format")⟩, ⟨H P (S "getattr"), .str (S "getattr") 23, (.builtin "getattr")⟩, ⟨H P (S "globals"), .str (S "globals") 24, (.builtin "globals")⟩, ⟨H P (S "hasattr"), .str (S "hasattr") 25, (.builtin "hasattr")⟩, ⟨H P (S "hash"), .str (S "hash") 26, (.builtin "hash")⟩, ⟨H P (S "hex"), .str (S "hex") 27, (.builtin "hex")⟩, ⟨H P (S "id"), .str (S "id") 28, (.builtin "id")⟩, ⟨H P (S "input"), .str (S "input") 29, (.builtin "input")⟩, ⟨H P (S "isinstance"), .str (S "isinstance") 30, (.builtin "isinstance")⟩, ⟨H P (S "issubclass"), .str (S "issubclass") 31, (.builtin "issubclass")⟩, ⟨H P (S "iter"), .str (S "iter") 32, (.builtin "iter")⟩, ⟨H P (S "aiter"), .str (S "aiter") 33, (.builtin "aiter")⟩, ⟨H P (S "len"), .str (S "len") 34, (.builtin "len")⟩, ⟨H P (S "locals"), .str (S "locals") 35, (.builtin "locals")⟩, ⟨H P (S "max"), .str (S "max") 36, (.builtin "max")⟩, ⟨H P (S "min"), .str (S "min") 37, (.builtin "min")⟩, ⟨H P (S "next"), .str (S "next") 38, (.builtin "next")⟩, ⟨H P (S "anext"), .str (S "anext") 39, (.builtin "anext")⟩, ⟨H P (S "oct"), .str (S "oct") 40, (.builtin "oct")⟩, ⟨H P (S "ord"), .str (S "ord") 41, (.builtin "ord")⟩, ⟨H P (S "pow"), .str (S "pow") 42, (.builtin "pow")⟩, ⟨H P (S "print"), .str (S "print") 43, (.builtin "print")⟩, ⟨H P (S "repr"), .str (S "repr") 44, (.builtin "repr")⟩, ⟨H P (S "round"), .str (S "round") 45, (.builtin "round")⟩, ⟨H P (S "setattr"), .str (S "setattr") 46, (.builtin "setattr")⟩, ⟨H P (S "sorted"), .str (S "sorted") 47, (.builtin "sorted")⟩, ⟨H P (S "sum"), .str (S "sum") 48, (.builtin "sum")⟩, ⟨H P (S "vars"), .str (S "vars") 49, (.builtin "vars")⟩, ⟨H P (S "None"), .str (S "None") 50, .none⟩, ⟨H P (S "Ellipsis"), .str (S "Ellipsis") 51, .ellipsis⟩, ⟨H P (S "NotImplemented"), .str (S "NotImplemented") 52, .notImplemented⟩, ⟨H P (S "False"), .str (S "False") 53, (.bool false)⟩, ⟨H P (S "True"), .str (S "True") 54, (.bool true)⟩, ⟨H P (S "bool"), .str (S "bool") 55, (.type "bool")⟩, ⟨H P (S "memoryview"), .str (S "memoryview") 56, (.type "memoryview")⟩, ⟨H P (S "bytearray"), .str (S "bytearray") 57, (.type "bytearray")⟩, ⟨H P (S "bytes"), .str (S "bytes") 58, (.type "bytes")⟩, ⟨H P (S "classmethod"), .str (S "classmethod") 59, (.type "classmethod")⟩, ⟨H P (S "complex"), .str (S "complex") 60, (.type "complex")⟩, ⟨H P (S "dict"), .str (S "dict") 61, (.type "dict")⟩, ⟨H P (S "enumerate"), .str (S "enumerate") 62, (.type "enumerate")⟩, ⟨H P (S "filter"), .str (S "filter") 63, (.type "filter")⟩, ⟨H P (S "float"), .str (S "float") 64, (.type "float")⟩, ⟨H P (S "frozenset"), .str (S "frozenset") 65, (.type "frozenset")⟩, ⟨H P (S "property"), .str (S "property") 66, (.type "property")⟩, ⟨H P (S "int"), .str (S "int") 67, (.type "int")⟩, ⟨H P (S "list"), .str (S "list") 68, (.type "list")⟩, ⟨H P (S "map"), .str (S "map") 69, (.type "map")⟩, ⟨H P (S "object"), .str (S "object") 70, (.type "object")⟩, ⟨H P (S "range"), .str (S "range") 71, (.type "range")⟩, ⟨H P (S "reversed"), .str (S "reversed") 72, (.type "reversed")⟩, ⟨H P (S "set"), .str (S "set") 73, (.type "set")⟩, ⟨H P (S "slice"), .str (S "slice") 74, (.type "slice")⟩, ⟨H P (S "staticmethod"), .str (S "staticmethod") 75, (.type "staticmethod")⟩, ⟨H P (S "str"), .str (S "str") 76, (.type "str")⟩, ⟨H P (S "super"), .str (S "super") 77, (.type "super")⟩, ⟨H P (S "tuple"), .str (S "tuple") 78, (.type "tuple")⟩, ⟨H P (S "type"), .str (S "type") 79, (.type "type")⟩, ⟨H P (S "zip"), .str (S "zip") 80, (.type "zip")⟩, ⟨H P (S "__debug__"), .str (S "__debug__") 81, (.bool true)⟩, ⟨H P (S "BaseException"), .str (S "BaseException") 82, (.type "BaseException")⟩, ⟨H P (S "BaseExceptionGroup"), .str (S "BaseExceptionGroup") 83, (.type "BaseExceptionGroup")⟩, ⟨H P (S "Exception"), .str (S "Exception") 84, (.type "Exception")⟩, ⟨H P (S "GeneratorExit"), .str (S "GeneratorExit") 85, (.type "GeneratorExit")⟩, ⟨H P (S "KeyboardInterrupt"), .str (S "KeyboardInterrupt") 86, (.type "KeyboardInterrupt")⟩, ⟨H P (S "SystemExit"), .str (S "SystemExit") 87, (.type "SystemExit")⟩, ⟨H P (S "ArithmeticError"), .str (S "ArithmeticError") 88, (.type "ArithmeticError")⟩, ⟨H P (S "AssertionError"), .str (S "AssertionError") 89, (.type "AssertionError")⟩, ⟨H P (S "AttributeError"), .str (S "AttributeError") 90, (.type "AttributeError")⟩, ⟨H P (S "BufferError"), .str (S "BufferError") 91, (.type "BufferError")⟩, ⟨H P (S "EOFError"), .str (S "EOFError") 92, (.type "EOFError")⟩, ⟨H P (S "ImportError"), .str (S "ImportError") 93, (.type "ImportError")⟩, ⟨H P (S "LookupError"), .str (S "LookupError") 94, (.type "LookupError")⟩, ⟨H P (S "MemoryError"), .str (S "MemoryError") 95, (.type "MemoryError")⟩, ⟨H P (S "NameError"), .str (S "NameError") 96, (.type "NameError")⟩, ⟨H P (S "OSError"), .str (S "OSError") 97, (.type "OSError")⟩, ⟨H P (S "ReferenceError"), .str (S "ReferenceError") 98, (.type "ReferenceError")⟩, ⟨H P (S "RuntimeError"), .str (S "RuntimeError") 99, (.type "RuntimeError")⟩, ⟨H P (S "StopAsyncIteration"), .str (S "StopAsyncIteration") 100, (.type "StopAsyncIteration")⟩, ⟨H P (S "StopIteration"), .str (S "StopIteration") 101, (.type "StopIteration")⟩, ⟨H P (S "SyntaxError"), .str (S "SyntaxError") 102, (.type "SyntaxError")⟩, ⟨H P (S "SystemError"), .str (S "SystemError") 103, (.type "SystemError")⟩, ⟨H P (S "TypeError"), .str (S "TypeError") 104, (.type "TypeError")⟩, ⟨H P (S "ValueError"), .str (S "ValueError") 105, (.type "ValueError")⟩, ⟨H P (S "Warning"), .str (S "Warning") 106, (.type "Warning")⟩, ⟨H P (S "FloatingPointError"), .str (S "FloatingPointError") 107, (.type "FloatingPointError")⟩, ⟨H P (S "OverflowError"), .str (S "OverflowError") 108, (.type "OverflowError")⟩, ⟨H P (S "ZeroDivisionError"), .str (S "ZeroDivisionError") 109, (.type "ZeroDivisionError")⟩, ⟨H P (S "BytesWarning"), .str (S "BytesWarning") 110, (.type "BytesWarning")⟩, ⟨H P (S "DeprecationWarning"), .str (S "DeprecationWarning") 111, (.type "DeprecationWarning")⟩, ⟨H P (S "EncodingWarning"), .str (S "EncodingWarning") 112, (.type "EncodingWarning")⟩, ⟨H P (S "FutureWarning"), .str (S "FutureWarning") 113, (.type "FutureWarning")⟩, ⟨H P (S "ImportWarning"), .str (S "ImportWarning") 114, (.type "ImportWarning")⟩, ⟨H P (S "PendingDeprecationWarning"), .str (S "PendingDeprecationWarning") 115, (.type "PendingDeprecationWarning")⟩, ⟨H P (S "ResourceWarning"), .str (S "ResourceWarning") 116, (.type "ResourceWarning")⟩, ⟨H P (S "RuntimeWarning"), .str (S "RuntimeWarning") 117, (.type "RuntimeWarning")⟩, ⟨H P (S "SyntaxWarning"), .str (S "SyntaxWarning") 118, (.type "SyntaxWarning")⟩, ⟨H P (S "UnicodeWarning"), .str (S "UnicodeWarning") 119, (.type "UnicodeWarning")⟩, ⟨H P (S "UserWarning"), .str (S "UserWarning") 120, (.type "UserWarning")⟩, ⟨H P (S "BlockingIOError"), .str (S "BlockingIOError") 121, (.type "BlockingIOError")⟩, ⟨H P (S "ChildProcessError"), .str (S "ChildProcessError") 122, (.type "ChildProcessError")⟩, ⟨H P (S "ConnectionError"), .str (S "ConnectionError") 123, (.type "ConnectionError")⟩, ⟨H P (S "FileExistsError"), .str (S "FileExistsError") 124, (.type "FileExistsError")⟩, ⟨H P (S "FileNotFoundError"), .str (S "FileNotFoundError") 125, (.type "FileNotFoundError")⟩, ⟨H P (S "InterruptedError"), .str (S "InterruptedError") 126, (.type "InterruptedError")⟩, ⟨H P (S "IsADirectoryError"), .str (S "IsADirectoryError") 127, (.type "IsADirectoryError")⟩, ⟨H P (S "NotADirectoryError"), .str (S "NotADirectoryError") 128, (.type "NotADirectoryError")⟩, ⟨H P (S "PermissionError"), .str (S "PermissionError") 129, (.type "PermissionError")⟩, ⟨H P (S "ProcessLookupError"), .str (S "ProcessLookupError") 130, (.type "ProcessLookupError")⟩, ⟨H P (S "TimeoutError"), .str (S "TimeoutError") 131, (.type "TimeoutError")⟩, ⟨H P (S "IndentationError"), .str (S "IndentationError") 132, (.type "IndentationError")⟩, ⟨H P (S "_IncompleteInputError"), .str (S "_IncompleteInputError") 133, (.type "_IncompleteInputError")⟩, ⟨H P (S "IndexError"), .str (S "IndexError") 134, (.type "IndexError")⟩, ⟨H P (S "KeyError"), .str (S "KeyError") 135, (.type "KeyError")⟩, ⟨H P (S "ModuleNotFoundError"), .str (S "ModuleNotFoundError") 136, (.type "ModuleNotFoundError")⟩, ⟨H P (S "NotImplementedError"), .str (S "NotImplementedError") 137, (.type "NotImplementedError")⟩, ⟨H P (S "PythonFinalizationError"), .str (S "PythonFinalizationError") 138, (.type "PythonFinalizationError")⟩, ⟨H P (S "RecursionError"), .str (S "RecursionError") 139, (.type "RecursionError")⟩, ⟨H P (S "UnboundLocalError"), .str (S "UnboundLocalError") 140, (.type "UnboundLocalError")⟩, ⟨H P (S "UnicodeError"), .str (S "UnicodeError") 141, (.type "UnicodeError")⟩, ⟨H P (S "BrokenPipeError"), .str (S "BrokenPipeError") 142, (.type "BrokenPipeError")⟩, ⟨H P (S "ConnectionAbortedError"), .str (S "ConnectionAbortedError") 143, (.type "ConnectionAbortedError")⟩, ⟨H P (S "ConnectionRefusedError"), .str (S "ConnectionRefusedError") 144, (.type "ConnectionRefusedError")⟩, ⟨H P (S "ConnectionResetError"), .str (S "ConnectionResetError") 145, (.type "ConnectionResetError")⟩, ⟨H P (S "TabError"), .str (S "TabError") 146, (.type "TabError")⟩, ⟨H P (S "UnicodeDecodeError"), .str (S "UnicodeDecodeError") 147, (.type "UnicodeDecodeError")⟩, ⟨H P (S "UnicodeEncodeError"), .str (S "UnicodeEncodeError") 148, (.type "UnicodeEncodeError")⟩, ⟨H P (S "UnicodeTranslateError"), .str (S "UnicodeTranslateError") 149, (.type "UnicodeTranslateError")⟩, ⟨H P (S "ExceptionGroup"), .str (S "ExceptionGroup") 150, (.type "ExceptionGroup")⟩, ⟨H P (S "EnvironmentError"), .str (S "EnvironmentError") 151, (.type "OSError")⟩, ⟨H P (S "IOError"), .str (S "IOError") 152, (.type "OSError")⟩, ⟨H P (S "open"), .str (S "open") 153, (.builtin "open")⟩, ⟨H P (S "quit"), .str (S "quit") 154, (.builtin "builtins.quit#opaque")⟩, ⟨H P (S "exit"), .str (S "exit") 155, (.builtin "builtins.exit#opaque")⟩, ⟨H P (S "copyright"), .str (S "copyright") 156, (.builtin "builtins.copyright#opaque")⟩, ⟨H P (S "credits"), .str (S "credits") 157, (.builtin "builtins.credits#opaque")⟩, ⟨H P (S "license"), .str (S "license") 158, (.builtin "builtins.license#opaque")⟩, ⟨H P (S "help"), .str (S "help") 159, (.builtin "builtins.help#opaque")⟩] 159), #[]⟩
noncomputable def h1se (P : Params) : Obj := ⟨(.type "dict"), none, (.dict #[⟨H P (S "builtins"), .str (S "builtins") 162, (.ref 4)⟩, ⟨H P (S "__main__"), .str (S "__main__") 163, (.ref 5)⟩, ⟨H P (S "_sre"), .str (S "_sre") 244, (.ref 12)⟩] 3), #[]⟩
noncomputable def h2se (P : Params) : Obj := ⟨.none, none, (.dict #[⟨H P (S "\x69mport.loaded._sre"), .str (S "\x69mport.loaded._sre") 183, (.bool true)⟩, ⟨H P (S "class._frozen_importlib.BuiltinImporter"), .str (S "class._frozen_importlib.BuiltinImporter") 185, (.ref 14)⟩, ⟨H P (S "watched.\x69mport"), .str (S "watched.\x69mport") 206, (.ref 18)⟩, ⟨H P (S "class._frozen_importlib.ModuleSpec"), .str (S "class._frozen_importlib.ModuleSpec") 216, (.ref 22)⟩, ⟨H P (S "sys.modules.booked-epoch"), .str (S "sys.modules.booked-epoch") 245, (.int 3 0)⟩, ⟨H P (S "\x69mport.later-laid._sre"), .str (S "\x69mport.later-laid._sre") 270, (.bool true)⟩, ⟨H P (S "watched.library"), .str (S "watched.library") 272, (.ref 27)⟩, ⟨H P (S "watched.library-objects"), .str (S "watched.library-objects") 0, (.str (PySem.Str.mk #[12]) 0)⟩, ⟨H P (S "watched.library-deep._sre"), .str (S "watched.library-deep._sre") 273, (.str (PySem.Str.mk #[4, 0, 0, 11, 4, 0, 0, 11, 4, 0, 0, 3, 4, 0, 0, 11, 8, 4, 100, 105, 99, 116, 2]) 0)⟩] 9), #[]⟩
noncomputable def h3se (P : Params) : Obj := ⟨(.type "dict"), none, (.dict #[⟨H P (S "__name__"), .str (S "__name__") 165, (.str (S "__main__") 164)⟩, ⟨H P (S "__doc__"), .str (S "__doc__") 166, .none⟩, ⟨H P (S "__package__"), .str (S "__package__") 167, .none⟩, ⟨H P (S "__loader__"), .str (S "__loader__") 168, (.builtin "__main__.__loader__#opaque")⟩, ⟨H P (S "__spec__"), .str (S "__spec__") 169, .none⟩, ⟨H P (S "__annotations__"), .str (S "__annotations__") 170, (.ref 6)⟩, ⟨H P (S "__builtins__"), .str (S "__builtins__") 171, (.ref 4)⟩, ⟨H P (S "__file__"), .str (S "__file__") 173, (.str (S "/claim/cut.py") 172)⟩, ⟨H P (S "__cached__"), .str (S "__cached__") 174, .none⟩, ⟨H P (S "_sre"), .str (S "_sre") 275, (.ref 12)⟩] 10), #[]⟩
noncomputable def h4se (P : Params) : Obj := ⟨(.type "module"), (some 0), .plain, #[]⟩
noncomputable def h5se (P : Params) : Obj := ⟨(.type "module"), (some 3), .plain, #[]⟩
noncomputable def h6se (P : Params) : Obj := ⟨(.type "dict"), none, (.dict #[] 0), #[]⟩
noncomputable def h7se (P : Params) : Obj := ⟨(.type "tuple"), none, (.seq #[] 0), #[]⟩
noncomputable def h8se (P : Params) : Obj := ⟨.none, none, (.fields #[]), #[]⟩
noncomputable def h9se (P : Params) : Obj := ⟨(.type "code"), none, (.fields #[(.str (S "<module>") 176), (.str (S "<module>") 177), (.str (S "/claim/cut.py") 178), (.int 1 0), (.int 0 0), (.int 0 0), (.int 0 0), (.int 0 0), (.ref 7), (.bool false), (.int 175 0), (.ref 8), .none, .none, .none, .none, (.int 179 0), (.int 1 0), (.str (S "/claim/cut.py") 180)]), #[]⟩
noncomputable def h10se (P : Params) : Obj := ⟨(.type "frame"), none, .plain, #[(some (.ref 9)), (some (.ref 3)), (some (.ref 3)), none, (some (.str (S "__main__") 164)), none, (some (.ref 0))]⟩
noncomputable def h11se (P : Params) : Obj := ⟨(.type "dict"), none, (.dict #[⟨H P (S "__name__"), .str (S "__name__") 247, (.str (S "_sre") 246)⟩, ⟨H P (S "__doc__"), .str (S "__doc__") 248, .none⟩, ⟨H P (S "__package__"), .str (S "__package__") 250, (.str (S "") 249)⟩, ⟨H P (S "__loader__"), .str (S "__loader__") 251, (.ref 14)⟩, ⟨H P (S "__spec__"), .str (S "__spec__") 252, (.ref 26)⟩, ⟨H P (S "compile"), .str (S "compile") 253, (.builtin "_sre.compile")⟩, ⟨H P (S "template"), .str (S "template") 254, (.builtin "_sre.template")⟩, ⟨H P (S "getcodesize"), .str (S "getcodesize") 255, (.builtin "_sre.getcodesize")⟩, ⟨H P (S "ascii_iscased"), .str (S "ascii_iscased") 256, (.builtin "_sre.ascii_iscased")⟩, ⟨H P (S "unicode_iscased"), .str (S "unicode_iscased") 257, (.builtin "_sre.unicode_iscased")⟩, ⟨H P (S "ascii_tolower"), .str (S "ascii_tolower") 258, (.builtin "_sre.ascii_tolower")⟩, ⟨H P (S "unicode_tolower"), .str (S "unicode_tolower") 259, (.builtin "_sre.unicode_tolower")⟩, ⟨H P (S "MAGIC"), .str (S "MAGIC") 261, (.int 20230612 260)⟩, ⟨H P (S "CODESIZE"), .str (S "CODESIZE") 263, (.int 4 262)⟩, ⟨H P (S "MAXREPEAT"), .str (S "MAXREPEAT") 265, (.int 4294967295 264)⟩, ⟨H P (S "MAXGROUPS"), .str (S "MAXGROUPS") 267, (.int 1073741823 266)⟩, ⟨H P (S "copyright"), .str (S "copyright") 269, (.str (S " SRE 2.2.2 Copyright (c) 1997-2002 by Secret Labs AB ") 268)⟩] 17), #[]⟩
noncomputable def h12se (P : Params) : Obj := ⟨(.type "module"), (some 11), .plain, #[]⟩
noncomputable def h13se (P : Params) : Obj := ⟨(.type "dict"), none, (.dict #[⟨H P (S "__module__"), .str (S "__module__") 189, (.str (S "_frozen_importlib") 186)⟩, ⟨H P (S "__firstlineno__"), .str (S "__firstlineno__") 190, (.int 971 187)⟩, ⟨H P (S "__doc__"), .str (S "__doc__") 191, (.builtin "_frozen_importlib.BuiltinImporter.__doc__:str#opaque")⟩, ⟨H P (S "_ORIGIN"), .str (S "_ORIGIN") 192, (.str (S "built-in") 188)⟩, ⟨H P (S "find_spec"), .str (S "find_spec") 193, (.builtin "_frozen_importlib.BuiltinImporter.find_spec#opaque")⟩, ⟨H P (S "create_module"), .str (S "create_module") 194, (.builtin "_frozen_importlib.BuiltinImporter.create_module#opaque")⟩, ⟨H P (S "exec_module"), .str (S "exec_module") 195, (.builtin "_frozen_importlib.BuiltinImporter.exec_module#opaque")⟩, ⟨H P (S "get_code"), .str (S "get_code") 196, (.builtin "_frozen_importlib.BuiltinImporter.get_code#opaque")⟩, ⟨H P (S "get_source"), .str (S "get_source") 197, (.builtin "_frozen_importlib.BuiltinImporter.get_source#opaque")⟩, ⟨H P (S "is_package"), .str (S "is_package") 198, (.builtin "_frozen_importlib.BuiltinImporter.is_package#opaque")⟩, ⟨H P (S "load_module"), .str (S "load_module") 199, (.builtin "_frozen_importlib.BuiltinImporter.load_module#opaque")⟩, ⟨H P (S "__static_attributes__"), .str (S "__static_attributes__") 200, (.ref 15)⟩, ⟨H P (S "__dict__"), .str (S "__dict__") 202, (.ref 16)⟩, ⟨H P (S "__weakref__"), .str (S "__weakref__") 204, (.ref 17)⟩] 14), #[]⟩
noncomputable def h14se (P : Params) : Obj := ⟨(.type "type"), none, (.cls { name := (S "BuiltinImporter"), bases := [(.type "object")], mro := [(.ref 14), (.type "object")], ns := 13, qualname := (S "BuiltinImporter"), hasDict := true, slotNames := [], subclasses := [], abstract := false, collection := none, hasDel := false }), #[]⟩
noncomputable def h15se (P : Params) : Obj := ⟨(.type "tuple"), none, (.seq #[] 0), #[]⟩
noncomputable def h16se (P : Params) : Obj := ⟨(.type "getset_descriptor"), none, (.fields #[(.str (S "__dict__") 201), (.ref 14), (.builtin "function.__dict__"), (.builtin "function.__dict__#set")]), #[]⟩
noncomputable def h17se (P : Params) : Obj := ⟨(.type "getset_descriptor"), none, (.fields #[(.str (S "__weakref__") 203), (.ref 14), (.builtin "ExceptionGroup.__weakref__"), .none]), #[]⟩
noncomputable def h18se (P : Params) : Obj := ⟨.none, none, (.seq #[(.int 13 0), (.str (PySem.Str.mk #[6, 189, 10, 95, 95, 109, 111, 100, 117, 108, 101, 95, 95, 6, 186, 17, 95, 102, 114, 111, 122, 101, 110, 95, 105, 109, 112, 111, 114, 116, 108, 105, 98, 6, 190, 15, 95, 95, 102, 105, 114, 115, 116, 108, 105, 110, 101, 110, 111, 95, 95, 4, 187, 0, 971, 6, 191, 7, 95, 95, 100, 111, 99, 95, 95, 9, 52, 95, 102, 114, 111, 122, 101, 110, 95, 105, 109, 112, 111, 114, 116, 108, 105, 98, 46, 66, 117, 105, 108, 116, 105, 110, 73, 109, 112, 111, 114, 116, 101, 114, 46, 95, 95, 100, 111, 99, 95, 95, 58, 115, 116, 114, 35, 111, 112, 97, 113, 117, 101, 6, 192, 7, 95, 79, 82, 73, 71, 73, 78, 6, 188, 8, 98, 117, 105, 108, 116, 45, 105, 110, 6, 193, 9, 102, 105, 110, 100, 95, 115, 112, 101, 99, 9, 50, 95, 102, 114, 111, 122, 101, 110, 95, 105, 109, 112, 111, 114, 116, 108, 105, 98, 46, 66, 117, 105, 108, 116, 105, 110, 73, 109, 112, 111, 114, 116, 101, 114, 46, 102, 105, 110, 100, 95, 115, 112, 101, 99, 35, 111, 112, 97, 113, 117, 101, 6, 194, 13, 99, 114, 101, 97, 116, 101, 95, 109, 111, 100, 117, 108, 101, 9, 54, 95, 102, 114, 111, 122, 101, 110, 95, 105, 109, 112, 111, 114, 116, 108, 105, 98, 46, 66, 117, 105, 108, 116, 105, 110, 73, 109, 112, 111, 114, 116, 101, 114, 46, 99, 114, 101, 97, 116, 101, 95, 109, 111, 100, 117, 108, 101, 35, 111, 112, 97, 113, 117, 101, 6, 195, 11, 101, 120, 101, 99, 95, 109, 111, 100, 117, 108, 101, 9, 52, 95, 102, 114, 111, 122, 101, 110, 95, 105, 109, 112, 111, 114, 116, 108, 105, 98, 46, 66, 117, 105, 108, 116, 105, 110, 73, 109, 112, 111, 114, 116, 101, 114, 46, 101, 120, 101, 99, 95, 109, 111, 100, 117, 108, 101, 35, 111, 112, 97, 113, 117, 101, 6, 196, 8, 103, 101, 116, 95, 99, 111, 100, 101, 9, 49, 95, 102, 114, 111, 122, 101, 110, 95, 105, 109, 112, 111, 114, 116, 108, 105, 98, 46, 66, 117, 105, 108, 116, 105, 110, 73, 109, 112, 111, 114, 116, 101, 114, 46, 103, 101, 116, 95, 99, 111, 100, 101, 35, 111, 112, 97, 113, 117, 101, 6, 197, 10, 103, 101, 116, 95, 115, 111, 117, 114, 99, 101, 9, 51, 95, 102, 114, 111, 122, 101, 110, 95, 105, 109, 112, 111, 114, 116, 108, 105, 98, 46, 66, 117, 105, 108, 116, 105, 110, 73, 109, 112, 111, 114, 116, 101, 114, 46, 103, 101, 116, 95, 115, 111, 117, 114, 99, 101, 35, 111, 112, 97, 113, 117, 101, 6, 198, 10, 105, 115, 95, 112, 97, 99, 107, 97, 103, 101, 9, 51, 95, 102, 114, 111, 122, 101, 110, 95, 105, 109, 112, 111, 114, 116, 108, 105, 98, 46, 66, 117, 105, 108, 116, 105, 110, 73, 109, 112, 111, 114, 116, 101, 114, 46, 105, 115, 95, 112, 97, 99, 107, 97, 103, 101, 35, 111, 112, 97, 113, 117, 101, 6, 199, 11, 108, 111, 97, 100, 95, 109, 111, 100, 117, 108, 101, 9, 52, 95, 102, 114, 111, 122, 101, 110, 95, 105, 109, 112, 111, 114, 116, 108, 105, 98, 46, 66, 117, 105, 108, 116, 105, 110, 73, 109, 112, 111, 114, 116, 101, 114, 46, 108, 111, 97, 100, 95, 109, 111, 100, 117, 108, 101, 35, 111, 112, 97, 113, 117, 101, 6, 200, 21, 95, 95, 115, 116, 97, 116, 105, 99, 95, 97, 116, 116, 114, 105, 98, 117, 116, 101, 115, 95, 95, 4, 0, 0, 15, 6, 202, 8, 95, 95, 100, 105, 99, 116, 95, 95, 4, 0, 0, 16, 6, 204, 11, 95, 95, 119, 101, 97, 107, 114, 101, 102, 95, 95, 4, 0, 0, 17]) 0), (.bool true), (.bool true), (.str (S "") 205), (.int 21 0), (.str (PySem.Str.mk #[6, 227, 10, 95, 95, 109, 111, 100, 117, 108, 101, 95, 95, 6, 217, 17, 95, 102, 114, 111, 122, 101, 110, 95, 105, 109, 112, 111, 114, 116, 108, 105, 98, 6, 228, 15, 95, 95, 102, 105, 114, 115, 116, 108, 105, 110, 101, 110, 111, 95, 95, 4, 218, 0, 562, 6, 229, 7, 95, 95, 100, 111, 99, 95, 95, 9, 47, 95, 102, 114, 111, 122, 101, 110, 95, 105, 109, 112, 111, 114, 116, 108, 105, 98, 46, 77, 111, 100, 117, 108, 101, 83, 112, 101, 99, 46, 95, 95, 100, 111, 99, 95, 95, 58, 115, 116, 114, 35, 111, 112, 97, 113, 117, 101, 6, 230, 8, 95, 95, 105, 110, 105, 116, 95, 95, 9, 44, 95, 102, 114, 111, 122, 101, 110, 95, 105, 109, 112, 111, 114, 116, 108, 105, 98, 46, 77, 111, 100, 117, 108, 101, 83, 112, 101, 99, 46, 95, 95, 105, 110, 105, 116, 95, 95, 35, 111, 112, 97, 113, 117, 101, 6, 231, 8, 95, 95, 114, 101, 112, 114, 95, 95, 9, 44, 95, 102, 114, 111, 122, 101, 110, 95, 105, 109, 112, 111, 114, 116, 108, 105, 98, 46, 77, 111, 100, 117, 108, 101, 83, 112, 101, 99, 46, 95, 95, 114, 101, 112, 114, 95, 95, 35, 111, 112, 97, 113, 117, 101, 6, 232, 6, 95, 95, 101, 113, 95, 95, 9, 42, 95, 102, 114, 111, 122, 101, 110, 95, 105, 109, 112, 111, 114, 116, 108, 105, 98, 46, 77, 111, 100, 117, 108, 101, 83, 112, 101, 99, 46, 95, 95, 101, 113, 95, 95, 35, 111, 112, 97, 113, 117, 101, 6, 233, 6, 99, 97, 99, 104, 101, 100, 9, 42, 95, 102, 114, 111, 122, 101, 110, 95, 105, 109, 112, 111, 114, 116, 108, 105, 98, 46, 77, 111, 100, 117, 108, 101, 83, 112, 101, 99, 46, 99, 97, 99, 104, 101, 100, 35, 111, 112, 97, 113, 117, 101, 6, 234, 6, 112, 97, 114, 101, 110, 116, 9, 42, 95, 102, 114, 111, 122, 101, 110, 95, 105, 109, 112, 111, 114, 116, 108, 105, 98, 46, 77, 111, 100, 117, 108, 101, 83, 112, 101, 99, 46, 112, 97, 114, 101, 110, 116, 35, 111, 112, 97, 113, 117, 101, 6, 235, 12, 104, 97, 115, 95, 108, 111, 99, 97, 116, 105, 111, 110, 9, 48, 95, 102, 114, 111, 122, 101, 110, 95, 105, 109, 112, 111, 114, 116, 108, 105, 98, 46, 77, 111, 100, 117, 108, 101, 83, 112, 101, 99, 46, 104, 97, 115, 95, 108, 111, 99, 97, 116, 105, 111, 110, 35, 111, 112, 97, 113, 117, 101, 6, 236, 21, 95, 95, 115, 116, 97, 116, 105, 99, 95, 97, 116, 116, 114, 105, 98, 117, 116, 101, 115, 95, 95, 4, 0, 0, 23, 6, 238, 8, 95, 95, 100, 105, 99, 116, 95, 95, 4, 0, 0, 24, 6, 240, 11, 95, 95, 119, 101, 97, 107, 114, 101, 102, 95, 95, 4, 0, 0, 25, 6, 241, 8, 95, 95, 104, 97, 115, 104, 95, 95, 0]) 0), (.bool true), (.bool true), (.str (S "") 242)] 1), #[]⟩
noncomputable def h19se (P : Params) : Obj := ⟨(.type "list"), none, (.seq #[] 0), #[]⟩
noncomputable def h20se (P : Params) : Obj := ⟨(.type "dict"), none, (.dict #[⟨H P (S "name"), .str (S "name") 208, (.str (S "_sre") 207)⟩, ⟨H P (S "loader"), .str (S "loader") 209, (.ref 14)⟩, ⟨H P (S "origin"), .str (S "origin") 210, (.str (S "built-in") 184)⟩, ⟨H P (S "loader_state"), .str (S "loader_state") 211, .none⟩, ⟨H P (S "submodule_search_locations"), .str (S "submodule_search_locations") 212, .none⟩, ⟨H P (S "_uninitialized_submodules"), .str (S "_uninitialized_submodules") 213, (.ref 19)⟩, ⟨H P (S "_set_fileattr"), .str (S "_set_fileattr") 214, (.bool false)⟩, ⟨H P (S "_cached"), .str (S "_cached") 215, .none⟩, ⟨H P (S "_initializing"), .str (S "_initializing") 243, (.bool false)⟩] 9), #[]⟩
noncomputable def h21se (P : Params) : Obj := ⟨(.type "dict"), none, (.dict #[⟨H P (S "__module__"), .str (S "__module__") 227, (.str (S "_frozen_importlib") 217)⟩, ⟨H P (S "__firstlineno__"), .str (S "__firstlineno__") 228, (.int 562 218)⟩, ⟨H P (S "__doc__"), .str (S "__doc__") 229, (.builtin "_frozen_importlib.ModuleSpec.__doc__:str#opaque")⟩, ⟨H P (S "__init__"), .str (S "__init__") 230, (.builtin "_frozen_importlib.ModuleSpec.__init__#opaque")⟩, ⟨H P (S "__repr__"), .str (S "__repr__") 231, (.builtin "_frozen_importlib.ModuleSpec.__repr__#opaque")⟩, ⟨H P (S "__eq__"), .str (S "__eq__") 232, (.builtin "_frozen_importlib.ModuleSpec.__eq__#opaque")⟩, ⟨H P (S "cached"), .str (S "cached") 233, (.builtin "_frozen_importlib.ModuleSpec.cached#opaque")⟩, ⟨H P (S "parent"), .str (S "parent") 234, (.builtin "_frozen_importlib.ModuleSpec.parent#opaque")⟩, ⟨H P (S "has_location"), .str (S "has_location") 235, (.builtin "_frozen_importlib.ModuleSpec.has_location#opaque")⟩, ⟨H P (S "__static_attributes__"), .str (S "__static_attributes__") 236, (.ref 23)⟩, ⟨H P (S "__dict__"), .str (S "__dict__") 238, (.ref 24)⟩, ⟨H P (S "__weakref__"), .str (S "__weakref__") 240, (.ref 25)⟩, ⟨H P (S "__hash__"), .str (S "__hash__") 241, .none⟩] 13), #[]⟩
noncomputable def h22se (P : Params) : Obj := ⟨(.type "type"), none, (.cls { name := (S "ModuleSpec"), bases := [(.type "object")], mro := [(.ref 22), (.type "object")], ns := 21, qualname := (S "ModuleSpec"), hasDict := true, slotNames := [], subclasses := [], abstract := false, collection := none, hasDel := false }), #[]⟩
noncomputable def h23se (P : Params) : Obj := ⟨(.type "tuple"), none, (.seq #[(.str (S "_cached") 219), (.str (S "_set_fileattr") 220), (.str (S "_uninitialized_submodules") 221), (.str (S "loader") 222), (.str (S "loader_state") 223), (.str (S "name") 224), (.str (S "origin") 225), (.str (S "submodule_search_locations") 226)] 0), #[]⟩
noncomputable def h24se (P : Params) : Obj := ⟨(.type "getset_descriptor"), none, (.fields #[(.str (S "__dict__") 237), (.ref 22), (.builtin "function.__dict__"), (.builtin "function.__dict__#set")]), #[]⟩
noncomputable def h25se (P : Params) : Obj := ⟨(.type "getset_descriptor"), none, (.fields #[(.str (S "__weakref__") 239), (.ref 22), (.builtin "ExceptionGroup.__weakref__"), .none]), #[]⟩
noncomputable def h26se (P : Params) : Obj := ⟨(.ref 22), (some 20), .plain, #[]⟩
noncomputable def h27se (P : Params) : Obj := ⟨.none, none, (.seq #[(.int 11 0), (.str (PySem.Str.mk #[6, 247, 8, 95, 95, 110, 97, 109, 101, 95, 95, 6, 246, 4, 95, 115, 114, 101, 6, 248, 7, 95, 95, 100, 111, 99, 95, 95, 0, 6, 250, 11, 95, 95, 112, 97, 99, 107, 97, 103, 101, 95, 95, 6, 249, 0, 6, 251, 10, 95, 95, 108, 111, 97, 100, 101, 114, 95, 95, 4, 0, 0, 14, 6, 252, 8, 95, 95, 115, 112, 101, 99, 95, 95, 4, 0, 0, 26, 6, 253, 7, 99, 111, 109, 112, 105, 108, 101, 9, 12, 95, 115, 114, 101, 46, 99, 111, 109, 112, 105, 108, 101, 6, 254, 8, 116, 101, 109, 112, 108, 97, 116, 101, 9, 13, 95, 115, 114, 101, 46, 116, 101, 109, 112, 108, 97, 116, 101, 6, 255, 11, 103, 101, 116, 99, 111, 100, 101, 115, 105, 122, 101, 9, 16, 95, 115, 114, 101, 46, 103, 101, 116, 99, 111, 100, 101, 115, 105, 122, 101, 6, 256, 13, 97, 115, 99, 105, 105, 95, 105, 115, 99, 97, 115, 101, 100, 9, 18, 95, 115, 114, 101, 46, 97, 115, 99, 105, 105, 95, 105, 115, 99, 97, 115, 101, 100, 6, 257, 15, 117, 110, 105, 99, 111, 100, 101, 95, 105, 115, 99, 97, 115, 101, 100, 9, 20, 95, 115, 114, 101, 46, 117, 110, 105, 99, 111, 100, 101, 95, 105, 115, 99, 97, 115, 101, 100, 6, 258, 13, 97, 115, 99, 105, 105, 95, 116, 111, 108, 111, 119, 101, 114, 9, 18, 95, 115, 114, 101, 46, 97, 115, 99, 105, 105, 95, 116, 111, 108, 111, 119, 101, 114, 6, 259, 15, 117, 110, 105, 99, 111, 100, 101, 95, 116, 111, 108, 111, 119, 101, 114, 9, 20, 95, 115, 114, 101, 46, 117, 110, 105, 99, 111, 100, 101, 95, 116, 111, 108, 111, 119, 101, 114, 6, 261, 5, 77, 65, 71, 73, 67, 4, 260, 0, 20230612, 6, 263, 8, 67, 79, 68, 69, 83, 73, 90, 69, 4, 262, 0, 4, 6, 265, 9, 77, 65, 88, 82, 69, 80, 69, 65, 84, 4, 264, 0, 4294967295, 6, 267, 9, 77, 65, 88, 71, 82, 79, 85, 80, 83, 4, 266, 0, 1073741823, 6, 269, 9, 99, 111, 112, 121, 114, 105, 103, 104, 116, 6, 268, 53, 32, 83, 82, 69, 32, 50, 46, 50, 46, 50, 32, 67, 111, 112, 121, 114, 105, 103, 104, 116, 32, 40, 99, 41, 32, 49, 57, 57, 55, 45, 50, 48, 48, 50, 32, 98, 121, 32, 83, 101, 99, 114, 101, 116, 32, 76, 97, 98, 115, 32, 65, 66, 32]) 0), (.bool true), (.bool false), (.str (S "_sre") 271)] 0), #[]⟩
noncomputable def Te (P : Params) : BT := treeOf [h0se P, h1se P, h2se P, h3se P, h4se P, h5se P, h6se P, h7se P, h8se P, h9se P, h10se P, h11se P, h12se P, h13se P, h14se P, h15se P, h16se P, h17se P, h18se P, h19se P, h20se P, h21se P, h22se P, h23se P, h24se P, h25se P, h26se P, h27se P]
noncomputable def h11s0 (P : Params) : Obj := ⟨(.type "dict"), none, (.dict #[⟨H P (S "__name__"), .str (S "__name__") 247, (.str (S "_sre") 246)⟩, ⟨H P (S "__doc__"), .str (S "__doc__") 248, .none⟩, ⟨H P (S "__package__"), .str (S "__package__") 250, (.str (S "") 249)⟩, ⟨H P (S "__loader__"), .str (S "__loader__") 251, (.builtin "off-the-table:_sre.__loader__:shared#opaque")⟩, ⟨H P (S "__spec__"), .str (S "__spec__") 252, (.builtin "off-the-table:_sre.__spec__:shared#opaque")⟩, ⟨H P (S "compile"), .str (S "compile") 253, (.builtin "_sre.compile")⟩, ⟨H P (S "template"), .str (S "template") 254, (.builtin "off-the-table:_sre.template:shared#opaque")⟩, ⟨H P (S "getcodesize"), .str (S "getcodesize") 255, (.builtin "off-the-table:_sre.getcodesize:shared#opaque")⟩, ⟨H P (S "ascii_iscased"), .str (S "ascii_iscased") 256, (.builtin "off-the-table:_sre.ascii_iscased:shared#opaque")⟩, ⟨H P (S "unicode_iscased"), .str (S "unicode_iscased") 257, (.builtin "off-the-table:_sre.unicode_iscased:shared#opaque")⟩, ⟨H P (S "ascii_tolower"), .str (S "ascii_tolower") 258, (.builtin "off-the-table:_sre.ascii_tolower:shared#opaque")⟩, ⟨H P (S "unicode_tolower"), .str (S "unicode_tolower") 259, (.builtin "off-the-table:_sre.unicode_tolower:shared#opaque")⟩, ⟨H P (S "MAGIC"), .str (S "MAGIC") 261, (.int 20230612 260)⟩, ⟨H P (S "CODESIZE"), .str (S "CODESIZE") 263, (.int 4 262)⟩, ⟨H P (S "MAXREPEAT"), .str (S "MAXREPEAT") 265, (.int 4294967295 264)⟩, ⟨H P (S "MAXGROUPS"), .str (S "MAXGROUPS") 267, (.int 1073741823 266)⟩, ⟨H P (S "copyright"), .str (S "copyright") 269, (.str (S " SRE 2.2.2 Copyright (c) 1997-2002 by Secret Labs AB ") 268)⟩] 17), #[]⟩
noncomputable def T0 (P : Params) : BT := treeOf [h0se P, h1se P, h2se P, h3se P, h4se P, h5se P, h6se P, h7se P, h8se P, h9se P, h10se P, h11s0 P, h12se P, h13se P, h14se P, h15se P, h16se P, h17se P, h18se P, h19se P, h20se P, h21se P, h22se P, h23se P, h24se P, h25se P, h26se P, h27se P]
noncomputable def h28sa (P : Params) : Obj := ⟨(.type "tuple"), none, (.seq #[] 0), #[]⟩
noncomputable def h29sa (P : Params) : Obj := ⟨.none, none, (.fields #[]), #[]⟩
noncomputable def h30sa (P : Params) : Obj := ⟨(.type "code"), none, (.fields #[(.str (S "<module>") 277), (.str (S "<module>") 278), (.str (S "/claim/cut.py") 279), (.int 1 0), (.int 0 0), (.int 0 0), (.int 0 0), (.int 0 0), (.ref 28), (.bool false), (.int 276 0), (.ref 29), .none, .none, .none, .none, (.int 280 0), (.int 1 0), (.str (S "/claim/cut.py") 281)]), #[]⟩
noncomputable def h31sa (P : Params) : Obj := ⟨(.type "frame"), none, .plain, #[(some (.ref 30)), (some (.ref 3)), (some (.ref 3)), none, (some (.str (S "__main__") 164)), none, (some (.ref 0))]⟩
noncomputable def Ta (P : Params) : BT := treeOf [h0se P, h1se P, h2se P, h3se P, h4se P, h5se P, h6se P, h7se P, h8se P, h9se P, h10se P, h11s0 P, h12se P, h13se P, h14se P, h15se P, h16se P, h17se P, h18se P, h19se P, h20se P, h21se P, h22se P, h23se P, h24se P, h25se P, h26se P, h27se P, h28sa P, h29sa P, h30sa P, h31sa P]
noncomputable def Tb (P : Params) : BT := treeOf [h0se P, h1se P, h2se P, h3se P, h4se P, h5se P, h6se P, h7se P, h8se P, h9se P, h10se P, h11s0 P, h12se P, h13se P, h14se P, h15se P, h16se P, h17se P, h18se P, h19se P, h20se P, h21se P, h22se P, h23se P, h24se P, h25se P, h26se P, h27se P, h28sa P, h29sa P, h30sa P, h31sa P]
noncomputable def h3s1 (P : Params) : Obj := ⟨(.type "dict"), none, (.dict #[⟨H P (S "__name__"), .str (S "__name__") 165, (.str (S "cpy313.ftplib") 282)⟩, ⟨H P (S "__doc__"), .str (S "__doc__") 166, .none⟩, ⟨H P (S "__package__"), .str (S "__package__") 167, .none⟩, ⟨H P (S "__loader__"), .str (S "__loader__") 168, (.builtin "__main__.__loader__#opaque")⟩, ⟨H P (S "__spec__"), .str (S "__spec__") 169, .none⟩, ⟨H P (S "__annotations__"), .str (S "__annotations__") 170, (.ref 6)⟩, ⟨H P (S "__builtins__"), .str (S "__builtins__") 171, (.ref 4)⟩, ⟨H P (S "__file__"), .str (S "__file__") 173, (.str (S "/claim/cut.py") 172)⟩, ⟨H P (S "__cached__"), .str (S "__cached__") 174, .none⟩, ⟨H P (S "_sre"), .str (S "_sre") 275, (.ref 12)⟩] 10), #[]⟩
noncomputable def T1 (P : Params) : BT := treeOf [h0se P, h1se P, h2se P, h3s1 P, h4se P, h5se P, h6se P, h7se P, h8se P, h9se P, h10se P, h11s0 P, h12se P, h13se P, h14se P, h15se P, h16se P, h17se P, h18se P, h19se P, h20se P, h21se P, h22se P, h23se P, h24se P, h25se P, h26se P, h27se P, h28sa P, h29sa P, h30sa P, h31sa P]
noncomputable def h2s2 (P : Params) : Obj := ⟨.none, none, (.dict #[⟨H P (S "\x69mport.loaded._sre"), .str (S "\x69mport.loaded._sre") 183, (.bool true)⟩, ⟨H P (S "class._frozen_importlib.BuiltinImporter"), .str (S "class._frozen_importlib.BuiltinImporter") 185, (.ref 14)⟩, ⟨H P (S "watched.\x69mport"), .str (S "watched.\x69mport") 206, (.ref 18)⟩, ⟨H P (S "class._frozen_importlib.ModuleSpec"), .str (S "class._frozen_importlib.ModuleSpec") 216, (.ref 22)⟩, ⟨H P (S "sys.modules.booked-epoch"), .str (S "sys.modules.booked-epoch") 245, (.int 3 0)⟩, ⟨H P (S "\x69mport.later-laid._sre"), .str (S "\x69mport.later-laid._sre") 270, (.bool true)⟩, ⟨H P (S "watched.library"), .str (S "watched.library") 272, (.ref 27)⟩, ⟨H P (S "watched.library-objects"), .str (S "watched.library-objects") 0, (.str (PySem.Str.mk #[12]) 0)⟩, ⟨H P (S "watched.library-deep._sre"), .str (S "watched.library-deep._sre") 273, (.str (PySem.Str.mk #[4, 0, 0, 11, 4, 0, 0, 11, 4, 0, 0, 3, 4, 0, 0, 11, 8, 4, 100, 105, 99, 116, 2]) 0)⟩, ⟨H P (S "type.__subclasses__.Exception.0"), .str (S "type.__subclasses__.Exception.0") 300, (.int 41 0)⟩, ⟨H P (S "type.__subclasses__.Exception.n"), .str (S "type.__subclasses__.Exception.n") 301, (.int 1 0)⟩] 11), #[]⟩
noncomputable def h3s2 (P : Params) : Obj := ⟨(.type "dict"), none, (.dict #[⟨H P (S "__name__"), .str (S "__name__") 165, (.str (S "cpy313.ftplib") 282)⟩, ⟨H P (S "__doc__"), .str (S "__doc__") 166, .none⟩, ⟨H P (S "__package__"), .str (S "__package__") 167, .none⟩, ⟨H P (S "__loader__"), .str (S "__loader__") 168, (.builtin "__main__.__loader__#opaque")⟩, ⟨H P (S "__spec__"), .str (S "__spec__") 169, .none⟩, ⟨H P (S "__annotations__"), .str (S "__annotations__") 170, (.ref 6)⟩, ⟨H P (S "__builtins__"), .str (S "__builtins__") 171, (.ref 4)⟩, ⟨H P (S "__file__"), .str (S "__file__") 173, (.str (S "/claim/cut.py") 172)⟩, ⟨H P (S "__cached__"), .str (S "__cached__") 174, .none⟩, ⟨H P (S "_sre"), .str (S "_sre") 275, (.ref 12)⟩, ⟨H P (S "Error"), .str (S "Error") 303, (.ref 41)⟩] 11), #[]⟩
noncomputable def h29s2 (P : Params) : Obj := ⟨.none, none, (.fields #[(.int 3 0), (.int 0 0), (.ref 37)]), #[]⟩
noncomputable def h32s2 (P : Params) : Obj := ⟨(.type "tuple"), none, (.seq #[(.type "Exception")] 0), #[]⟩
noncomputable def h33s2 (P : Params) : Obj := ⟨(.type "builtin_function_or_method"), none, (.fields #[(.builtin "type.__prepare__"), (.type "type")]), #[]⟩
noncomputable def h34s2 (P : Params) : Obj := ⟨(.type "dict"), none, (.dict #[⟨H P (S "__module__"), .str (S "__module__") 291, (.str (S "cpy313.ftplib") 282)⟩, ⟨H P (S "__qualname__"), .str (S "__qualname__") 293, (.str (S "Error") 292)⟩, ⟨H P (S "__firstlineno__"), .str (S "__firstlineno__") 295, (.int 3 294)⟩, ⟨H P (S "__static_attributes__"), .str (S "__static_attributes__") 296, (.ref 39)⟩] 4), #[]⟩
noncomputable def h35s2 (P : Params) : Obj := ⟨(.type "tuple"), none, (.seq #[] 0), #[]⟩
noncomputable def h36s2 (P : Params) : Obj := ⟨.none, none, (.fields #[]), #[]⟩
noncomputable def h37s2 (P : Params) : Obj := ⟨(.type "code"), none, (.fields #[(.str (S "Error") 286), (.str (S "Error") 287), (.str (S "/claim/cut.py") 288), (.int 3 0), (.int 0 0), (.int 0 0), (.int 0 0), (.int 0 0), (.ref 35), (.bool false), (.int 276 0), (.ref 36), .none, .none, .none, .none, (.int 289 0), (.int 3 0), (.str (S "/claim/cut.py") 290)]), #[]⟩
noncomputable def h38s2 (P : Params) : Obj := ⟨(.type "frame"), none, .plain, #[(some (.ref 37)), (some (.ref 3)), (some (.ref 34)), none, (some (.str (S "cpy313.ftplib") 282)), none, (some (.ref 0))]⟩
noncomputable def h39s2 (P : Params) : Obj := ⟨(.type "tuple"), none, (.seq #[] 0), #[]⟩
noncomputable def h40s2 (P : Params) : Obj := ⟨(.type "dict"), none, (.dict #[⟨H P (S "__module__"), .str (S "__module__") 291, (.str (S "cpy313.ftplib") 282)⟩, ⟨H P (S "__firstlineno__"), .str (S "__firstlineno__") 295, (.int 3 294)⟩, ⟨H P (S "__static_attributes__"), .str (S "__static_attributes__") 296, (.ref 39)⟩, ⟨H P (S "__weakref__"), .str (S "__weakref__") 298, (.ref 42)⟩, ⟨H P (S "__doc__"), .str (S "__doc__") 299, .none⟩] 3), #[]⟩
noncomputable def h41s2 (P : Params) : Obj := ⟨(.type "type"), none, (.cls { name := (S "Error"), bases := [(.type "Exception")], mro := [(.ref 41), (.type "Exception"), (.type "BaseException"), (.type "object")], ns := 40, qualname := (S "Error"), hasDict := true, slotNames := [], subclasses := [], abstract := false, collection := none, hasDel := false }), #[(some (.ref 32)), none, (some (.str (S "Error") 284)), (some (.str (S "Error") 292)), (some (.builtin "Exception.__new__")), (some (.bool true))]⟩
noncomputable def h42s2 (P : Params) : Obj := ⟨(.type "getset_descriptor"), none, (.fields #[(.str (S "__weakref__") 297), (.ref 41), (.builtin "ExceptionGroup.__weakref__"), .none]), #[]⟩
noncomputable def h43s2 (P : Params) : Obj := ⟨(.type "super"), none, (.fields #[(.ref 41), (.ref 41), (.ref 41)]), #[]⟩
noncomputable def h44s2 (P : Params) : Obj := ⟨(.type "builtin_function_or_method"), none, (.fields #[(.builtin "object.__init_subclass__"), (.ref 41)]), #[]⟩
noncomputable def T2 (P : Params) : BT := treeOf [h0se P, h1se P, h2s2 P, h3s2 P, h4se P, h5se P, h6se P, h7se P, h8se P, h9se P, h10se P, h11s0 P, h12se P, h13se P, h14se P, h15se P, h16se P, h17se P, h18se P, h19se P, h20se P, h21se P, h22se P, h23se P, h24se P, h25se P, h26se P, h27se P, h28sa P, h29s2 P, h30sa P, h31sa P, h32s2 P, h33s2 P, h34s2 P, h35s2 P, h36s2 P, h37s2 P, h38s2 P, h39s2 P, h40s2 P, h41s2 P, h42s2 P, h43s2 P, h44s2 P]
noncomputable def h3s3 (P : Params) : Obj := ⟨(.type "dict"), none, (.dict #[⟨H P (S "__name__"), .str (S "__name__") 165, (.str (S "cpy313.ftplib") 282)⟩, ⟨H P (S "__doc__"), .str (S "__doc__") 166, .none⟩, ⟨H P (S "__package__"), .str (S "__package__") 167, .none⟩, ⟨H P (S "__loader__"), .str (S "__loader__") 168, (.builtin "__main__.__loader__#opaque")⟩, ⟨H P (S "__spec__"), .str (S "__spec__") 169, .none⟩, ⟨H P (S "__annotations__"), .str (S "__annotations__") 170, (.ref 6)⟩, ⟨H P (S "__builtins__"), .str (S "__builtins__") 171, (.ref 4)⟩, ⟨H P (S "__file__"), .str (S "__file__") 173, (.str (S "/claim/cut.py") 172)⟩, ⟨H P (S "__cached__"), .str (S "__cached__") 174, .none⟩, ⟨H P (S "_sre"), .str (S "_sre") 275, (.ref 12)⟩, ⟨H P (S "Error"), .str (S "Error") 303, (.ref 41)⟩, ⟨H P (S "error_reply"), .str (S "error_reply") 319, (.ref 54)⟩] 12), #[]⟩
noncomputable def h29s3 (P : Params) : Obj := ⟨.none, none, (.fields #[(.int 3 0), (.int 0 0), (.ref 37), (.int 5 0), (.int 0 0), (.ref 50)]), #[]⟩
noncomputable def h41s3 (P : Params) : Obj := ⟨(.type "type"), none, (.cls { name := (S "Error"), bases := [(.type "Exception")], mro := [(.ref 41), (.type "Exception"), (.type "BaseException"), (.type "object")], ns := 40, qualname := (S "Error"), hasDict := true, slotNames := [], subclasses := [(.ref 54)], abstract := false, collection := none, hasDel := false }), #[(some (.ref 32)), none, (some (.str (S "Error") 284)), (some (.str (S "Error") 292)), (some (.builtin "Exception.__new__")), (some (.bool true))]⟩
noncomputable def h45s3 (P : Params) : Obj := ⟨(.type "tuple"), none, (.seq #[(.ref 41)] 0), #[]⟩
noncomputable def h46s3 (P : Params) : Obj := ⟨(.type "builtin_function_or_method"), none, (.fields #[(.builtin "type.__prepare__"), (.type "type")]), #[]⟩
noncomputable def h47s3 (P : Params) : Obj := ⟨(.type "dict"), none, (.dict #[⟨H P (S "__module__"), .str (S "__module__") 311, (.str (S "cpy313.ftplib") 282)⟩, ⟨H P (S "__qualname__"), .str (S "__qualname__") 313, (.str (S "error_reply") 312)⟩, ⟨H P (S "__firstlineno__"), .str (S "__firstlineno__") 315, (.int 5 314)⟩, ⟨H P (S "__static_attributes__"), .str (S "__static_attributes__") 316, (.ref 52)⟩] 4), #[]⟩
noncomputable def h48s3 (P : Params) : Obj := ⟨(.type "tuple"), none, (.seq #[] 0), #[]⟩
noncomputable def h49s3 (P : Params) : Obj := ⟨.none, none, (.fields #[]), #[]⟩
noncomputable def h50s3 (P : Params) : Obj := ⟨(.type "code"), none, (.fields #[(.str (S "error_reply") 306), (.str (S "error_reply") 307), (.str (S "/claim/cut.py") 308), (.int 5 0), (.int 0 0), (.int 0 0), (.int 0 0), (.int 0 0), (.ref 48), (.bool false), (.int 276 0), (.ref 49), .none, .none, .none, .none, (.int 309 0), (.int 5 0), (.str (S "/claim/cut.py") 310)]), #[]⟩
noncomputable def h51s3 (P : Params) : Obj := ⟨(.type "frame"), none, .plain, #[(some (.ref 50)), (some (.ref 3)), (some (.ref 47)), none, (some (.str (S "cpy313.ftplib") 282)), none, (some (.ref 0))]⟩
noncomputable def h52s3 (P : Params) : Obj := ⟨(.type "tuple"), none, (.seq #[] 0), #[]⟩
noncomputable def h53s3 (P : Params) : Obj := ⟨(.type "dict"), none, (.dict #[⟨H P (S "__module__"), .str (S "__module__") 311, (.str (S "cpy313.ftplib") 282)⟩, ⟨H P (S "__firstlineno__"), .str (S "__firstlineno__") 315, (.int 5 314)⟩, ⟨H P (S "__static_attributes__"), .str (S "__static_attributes__") 316, (.ref 52)⟩, ⟨H P (S "__doc__"), .str (S "__doc__") 317, .none⟩] 2), #[]⟩
noncomputable def h54s3 (P : Params) : Obj := ⟨(.type "type"), none, (.cls { name := (S "error_reply"), bases := [(.ref 41)], mro := [(.ref 54), (.ref 41), (.type "Exception"), (.type "BaseException"), (.type "object")], ns := 53, qualname := (S "error_reply"), hasDict := true, slotNames := [], subclasses := [], abstract := false, collection := none, hasDel := false }), #[(some (.ref 45)), none, (some (.str (S "error_reply") 304)), (some (.str (S "error_reply") 312)), (some (.builtin "Exception.__new__")), (some (.bool true))]⟩
noncomputable def h55s3 (P : Params) : Obj := ⟨(.type "super"), none, (.fields #[(.ref 54), (.ref 54), (.ref 54)]), #[]⟩
noncomputable def h56s3 (P : Params) : Obj := ⟨(.type "builtin_function_or_method"), none, (.fields #[(.builtin "object.__init_subclass__"), (.ref 54)]), #[]⟩
noncomputable def T3 (P : Params) : BT := treeOf [h0se P, h1se P, h2s2 P, h3s3 P, h4se P, h5se P, h6se P, h7se P, h8se P, h9se P, h10se P, h11s0 P, h12se P, h13se P, h14se P, h15se P, h16se P, h17se P, h18se P, h19se P, h20se P, h21se P, h22se P, h23se P, h24se P, h25se P, h26se P, h27se P, h28sa P, h29s3 P, h30sa P, h31sa P, h32s2 P, h33s2 P, h34s2 P, h35s2 P, h36s2 P, h37s2 P, h38s2 P, h39s2 P, h40s2 P, h41s3 P, h42s2 P, h43s2 P, h44s2 P, h45s3 P, h46s3 P, h47s3 P, h48s3 P, h49s3 P, h50s3 P, h51s3 P, h52s3 P, h53s3 P, h54s3 P, h55s3 P, h56s3 P]
noncomputable def h3s4 (P : Params) : Obj := ⟨(.type "dict"), none, (.dict #[⟨H P (S "__name__"), .str (S "__name__") 165, (.str (S "cpy313.ftplib") 282)⟩, ⟨H P (S "__doc__"), .str (S "__doc__") 166, .none⟩, ⟨H P (S "__package__"), .str (S "__package__") 167, .none⟩, ⟨H P (S "__loader__"), .str (S "__loader__") 168, (.builtin "__main__.__loader__#opaque")⟩, ⟨H P (S "__spec__"), .str (S "__spec__") 169, .none⟩, ⟨H P (S "__annotations__"), .str (S "__annotations__") 170, (.ref 6)⟩, ⟨H P (S "__builtins__"), .str (S "__builtins__") 171, (.ref 4)⟩, ⟨H P (S "__file__"), .str (S "__file__") 173, (.str (S "/claim/cut.py") 172)⟩, ⟨H P (S "__cached__"), .str (S "__cached__") 174, .none⟩, ⟨H P (S "_sre"), .str (S "_sre") 275, (.ref 12)⟩, ⟨H P (S "Error"), .str (S "Error") 303, (.ref 41)⟩, ⟨H P (S "error_reply"), .str (S "error_reply") 319, (.ref 54)⟩, ⟨H P (S "parse257"), .str (S "parse257") 330, (.ref 63)⟩] 13), #[]⟩
noncomputable def h29s4 (P : Params) : Obj := ⟨.none, none, (.fields #[(.int 3 0), (.int 0 0), (.ref 37), (.int 5 0), (.int 0 0), (.ref 50), (.int 7 0), (.int 0 0), (.ref 62)]), #[]⟩
noncomputable def h57s4 (P : Params) : Obj := ⟨(.type "tuple"), none, (.seq #[] 0), #[]⟩
noncomputable def h58s4 (P : Params) : Obj := ⟨.none, none, (.fields #[]), #[]⟩
noncomputable def h59s4 (P : Params) : Obj := ⟨(.type "tuple"), none, (.seq #[(.str (S "resp") 323), (.str (S "dirname") 324), (.str (S "i") 325), (.str (S "n") 326), (.str (S "c") 327)] 0), #[]⟩
noncomputable def h60s4 (P : Params) : Obj := ⟨(.type "tuple"), none, (.seq #[] 0), #[]⟩
noncomputable def h61s4 (P : Params) : Obj := ⟨.none, none, (.func { name := (S "parse257"), qualname := (S "parse257"), params := fpar4, body := .stmts fbody4, scope := fsco4, globals := 0, closure := [], defaults := .none, kwdefaults := .none, doc := .none, pyModule := .none, annotations := none, code := .none, closureTuple := .none, builtins := 0 }), #[]⟩
noncomputable def h62s4 (P : Params) : Obj := ⟨(.type "code"), none, (.fields #[(.str (S "parse257") 320), (.str (S "parse257") 321), (.str (S "/claim/cut.py") 322), (.int 7 0), (.int 1 0), (.int 0 0), (.int 0 0), (.int 3 0), (.ref 57), (.bool true), (.int 276 0), (.ref 58), .none, (.ref 59), (.ref 60), (.ref 61), (.int 328 0), (.int 7 0), (.str (S "/claim/cut.py") 329)]), #[]⟩
noncomputable def h63s4 (P : Params) : Obj := ⟨(.type "function"), none, (.func { name := (S "parse257"), qualname := (S "parse257"), params := fpar4, body := .stmts fbody4, scope := fsco4, globals := 3, closure := [], defaults := .none, kwdefaults := .none, doc := .none, pyModule := (.str (S "cpy313.ftplib") 282), annotations := none, code := (.ref 62), closureTuple := .none, builtins := 0 }), #[]⟩
noncomputable def T4 (P : Params) : BT := treeOf [h0se P, h1se P, h2s2 P, h3s4 P, h4se P, h5se P, h6se P, h7se P, h8se P, h9se P, h10se P, h11s0 P, h12se P, h13se P, h14se P, h15se P, h16se P, h17se P, h18se P, h19se P, h20se P, h21se P, h22se P, h23se P, h24se P, h25se P, h26se P, h27se P, h28sa P, h29s4 P, h30sa P, h31sa P, h32s2 P, h33s2 P, h34s2 P, h35s2 P, h36s2 P, h37s2 P, h38s2 P, h39s2 P, h40s2 P, h41s3 P, h42s2 P, h43s2 P, h44s2 P, h45s3 P, h46s3 P, h47s3 P, h48s3 P, h49s3 P, h50s3 P, h51s3 P, h52s3 P, h53s3 P, h54s3 P, h55s3 P, h56s3 P, h57s4 P, h58s4 P, h59s4 P, h60s4 P, h61s4 P, h62s4 P, h63s4 P]
noncomputable def h3s5 (P : Params) : Obj := ⟨(.type "dict"), none, (.dict #[⟨H P (S "__name__"), .str (S "__name__") 165, (.str (S "cpy313.smtplib") 331)⟩, ⟨H P (S "__doc__"), .str (S "__doc__") 166, .none⟩, ⟨H P (S "__package__"), .str (S "__package__") 167, .none⟩, ⟨H P (S "__loader__"), .str (S "__loader__") 168, (.builtin "__main__.__loader__#opaque")⟩, ⟨H P (S "__spec__"), .str (S "__spec__") 169, .none⟩, ⟨H P (S "__annotations__"), .str (S "__annotations__") 170, (.ref 6)⟩, ⟨H P (S "__builtins__"), .str (S "__builtins__") 171, (.ref 4)⟩, ⟨H P (S "__file__"), .str (S "__file__") 173, (.str (S "/claim/cut.py") 172)⟩, ⟨H P (S "__cached__"), .str (S "__cached__") 174, .none⟩, ⟨H P (S "_sre"), .str (S "_sre") 275, (.ref 12)⟩, ⟨H P (S "Error"), .str (S "Error") 303, (.ref 41)⟩, ⟨H P (S "error_reply"), .str (S "error_reply") 319, (.ref 54)⟩, ⟨H P (S "parse257"), .str (S "parse257") 330, (.ref 63)⟩] 13), #[]⟩
noncomputable def T5 (P : Params) : BT := treeOf [h0se P, h1se P, h2s2 P, h3s5 P, h4se P, h5se P, h6se P, h7se P, h8se P, h9se P, h10se P, h11s0 P, h12se P, h13se P, h14se P, h15se P, h16se P, h17se P, h18se P, h19se P, h20se P, h21se P, h22se P, h23se P, h24se P, h25se P, h26se P, h27se P, h28sa P, h29s4 P, h30sa P, h31sa P, h32s2 P, h33s2 P, h34s2 P, h35s2 P, h36s2 P, h37s2 P, h38s2 P, h39s2 P, h40s2 P, h41s3 P, h42s2 P, h43s2 P, h44s2 P, h45s3 P, h46s3 P, h47s3 P, h48s3 P, h49s3 P, h50s3 P, h51s3 P, h52s3 P, h53s3 P, h54s3 P, h55s3 P, h56s3 P, h57s4 P, h58s4 P, h59s4 P, h60s4 P, h61s4 P, h62s4 P, h63s4 P]
noncomputable def h3s6 (P : Params) : Obj := ⟨(.type "dict"), none, (.dict #[⟨H P (S "__name__"), .str (S "__name__") 165, (.str (S "cpy313.smtplib") 331)⟩, ⟨H P (S "__doc__"), .str (S "__doc__") 166, .none⟩, ⟨H P (S "__package__"), .str (S "__package__") 167, .none⟩, ⟨H P (S "__loader__"), .str (S "__loader__") 168, (.builtin "__main__.__loader__#opaque")⟩, ⟨H P (S "__spec__"), .str (S "__spec__") 169, .none⟩, ⟨H P (S "__annotations__"), .str (S "__annotations__") 170, (.ref 6)⟩, ⟨H P (S "__builtins__"), .str (S "__builtins__") 171, (.ref 4)⟩, ⟨H P (S "__file__"), .str (S "__file__") 173, (.str (S "/claim/cut.py") 172)⟩, ⟨H P (S "__cached__"), .str (S "__cached__") 174, .none⟩, ⟨H P (S "_sre"), .str (S "_sre") 275, (.ref 12)⟩, ⟨H P (S "Error"), .str (S "Error") 303, (.ref 41)⟩, ⟨H P (S "error_reply"), .str (S "error_reply") 319, (.ref 54)⟩, ⟨H P (S "parse257"), .str (S "parse257") 330, (.ref 63)⟩, ⟨H P (S "_twin_re_1"), .str (S "_twin_re_1") 348, (.ref 68)⟩] 14), #[]⟩
noncomputable def h64s6 (P : Params) : Obj := ⟨(.type "list"), none, (.seq #[(.int 14 336), (.int 4 337), (.int 0 338), (.int 1 339), (.int 1 340), (.int 6 341), (.int 1 342), (.int 16 343), (.int 46 344), (.int 1 345)] 0), #[]⟩
noncomputable def h65s6 (P : Params) : Obj := ⟨(.type "dict"), none, (.dict #[] 0), #[]⟩
noncomputable def h66s6 (P : Params) : Obj := ⟨(.type "tuple"), none, (.seq #[.none] 0), #[]⟩
noncomputable def h67s6 (P : Params) : Obj := ⟨(.type "tuple"), none, (.seq #[(.int 14 0), (.int 4 0), (.int 0 0), (.int 1 0), (.int 1 0), (.int 6 0), (.int 1 0), (.int 16 0), (.int 46 0), (.int 1 0)] 0), #[]⟩
noncomputable def h68s6 (P : Params) : Obj := ⟨(.type "re.Pattern"), none, (.fields #[(.str (PySem.Str.mk #[40, 63, 109, 41, 94, 92, 46]) 334), (.int 40 347), (.int 0 0), .none, .none, (.ref 67), (.int 0 0)]), #[]⟩
noncomputable def T6 (P : Params) : BT := treeOf [h0se P, h1se P, h2s2 P, h3s6 P, h4se P, h5se P, h6se P, h7se P, h8se P, h9se P, h10se P, h11s0 P, h12se P, h13se P, h14se P, h15se P, h16se P, h17se P, h18se P, h19se P, h20se P, h21se P, h22se P, h23se P, h24se P, h25se P, h26se P, h27se P, h28sa P, h29s4 P, h30sa P, h31sa P, h32s2 P, h33s2 P, h34s2 P, h35s2 P, h36s2 P, h37s2 P, h38s2 P, h39s2 P, h40s2 P, h41s3 P, h42s2 P, h43s2 P, h44s2 P, h45s3 P, h46s3 P, h47s3 P, h48s3 P, h49s3 P, h50s3 P, h51s3 P, h52s3 P, h53s3 P, h54s3 P, h55s3 P, h56s3 P, h57s4 P, h58s4 P, h59s4 P, h60s4 P, h61s4 P, h62s4 P, h63s4 P, h64s6 P, h65s6 P, h66s6 P, h67s6 P, h68s6 P]
noncomputable def h3s7 (P : Params) : Obj := ⟨(.type "dict"), none, (.dict #[⟨H P (S "__name__"), .str (S "__name__") 165, (.str (S "cpy313.smtplib") 331)⟩, ⟨H P (S "__doc__"), .str (S "__doc__") 166, .none⟩, ⟨H P (S "__package__"), .str (S "__package__") 167, .none⟩, ⟨H P (S "__loader__"), .str (S "__loader__") 168, (.builtin "__main__.__loader__#opaque")⟩, ⟨H P (S "__spec__"), .str (S "__spec__") 169, .none⟩, ⟨H P (S "__annotations__"), .str (S "__annotations__") 170, (.ref 6)⟩, ⟨H P (S "__builtins__"), .str (S "__builtins__") 171, (.ref 4)⟩, ⟨H P (S "__file__"), .str (S "__file__") 173, (.str (S "/claim/cut.py") 172)⟩, ⟨H P (S "__cached__"), .str (S "__cached__") 174, .none⟩, ⟨H P (S "_sre"), .str (S "_sre") 275, (.ref 12)⟩, ⟨H P (S "Error"), .str (S "Error") 303, (.ref 41)⟩, ⟨H P (S "error_reply"), .str (S "error_reply") 319, (.ref 54)⟩, ⟨H P (S "parse257"), .str (S "parse257") 330, (.ref 63)⟩, ⟨H P (S "_twin_re_1"), .str (S "_twin_re_1") 348, (.ref 68)⟩, ⟨H P (S "_twin_re_2"), .str (S "_twin_re_2") 390, (.ref 73)⟩] 15), #[]⟩
noncomputable def h69s7 (P : Params) : Obj := ⟨(.type "list"), none, (.seq #[(.int 14 352), (.int 9 353), (.int 4 354), (.int 1 355), (.int 2 356), (.int 16 357), (.int 10 358), (.int 16 359), (.int 13 360), (.int 0 361), (.int 7 362), (.int 7 363), (.int 16 364), (.int 13 365), (.int 16 366), (.int 10 367), (.int 15 368), (.int 18 369), (.int 5 370), (.int 16 371), (.int 10 372), (.int 15 373), (.int 13 374), (.int 11 375), (.int 16 376), (.int 13 377), (.int 5 378), (.int 5 379), (.int 0 380), (.int 16 381), (.int 10 382), (.int 1 383), (.int 15 384), (.int 2 385), (.int 0 386), (.int 1 387)] 0), #[]⟩
noncomputable def h70s7 (P : Params) : Obj := ⟨(.type "dict"), none, (.dict #[] 0), #[]⟩
noncomputable def h71s7 (P : Params) : Obj := ⟨(.type "tuple"), none, (.seq #[.none] 0), #[]⟩
noncomputable def h72s7 (P : Params) : Obj := ⟨(.type "tuple"), none, (.seq #[(.int 14 0), (.int 9 0), (.int 4 0), (.int 1 0), (.int 2 0), (.int 16 0), (.int 10 0), (.int 16 0), (.int 13 0), (.int 0 0), (.int 7 0), (.int 7 0), (.int 16 0), (.int 13 0), (.int 16 0), (.int 10 0), (.int 15 0), (.int 18 0), (.int 5 0), (.int 16 0), (.int 10 0), (.int 15 0), (.int 13 0), (.int 11 0), (.int 16 0), (.int 13 0), (.int 5 0), (.int 5 0), (.int 0 0), (.int 16 0), (.int 10 0), (.int 1 0), (.int 15 0), (.int 2 0), (.int 0 0), (.int 1 0)] 0), #[]⟩
noncomputable def h73s7 (P : Params) : Obj := ⟨(.type "re.Pattern"), none, (.fields #[(.str (PySem.Str.mk #[40, 63, 58, 92, 114, 92, 110, 124, 92, 110, 124, 92, 114, 40, 63, 33, 92, 110, 41, 41]) 350), (.int 32 389), (.int 0 0), .none, .none, (.ref 72), (.int 0 0)]), #[]⟩
noncomputable def T7 (P : Params) : BT := treeOf [h0se P, h1se P, h2s2 P, h3s7 P, h4se P, h5se P, h6se P, h7se P, h8se P, h9se P, h10se P, h11s0 P, h12se P, h13se P, h14se P, h15se P, h16se P, h17se P, h18se P, h19se P, h20se P, h21se P, h22se P, h23se P, h24se P, h25se P, h26se P, h27se P, h28sa P, h29s4 P, h30sa P, h31sa P, h32s2 P, h33s2 P, h34s2 P, h35s2 P, h36s2 P, h37s2 P, h38s2 P, h39s2 P, h40s2 P, h41s3 P, h42s2 P, h43s2 P, h44s2 P, h45s3 P, h46s3 P, h47s3 P, h48s3 P, h49s3 P, h50s3 P, h51s3 P, h52s3 P, h53s3 P, h54s3 P, h55s3 P, h56s3 P, h57s4 P, h58s4 P, h59s4 P, h60s4 P, h61s4 P, h62s4 P, h63s4 P, h64s6 P, h65s6 P, h66s6 P, h67s6 P, h68s6 P, h69s7 P, h70s7 P, h71s7 P, h72s7 P, h73s7 P]
noncomputable def h3s8 (P : Params) : Obj := ⟨(.type "dict"), none, (.dict #[⟨H P (S "__name__"), .str (S "__name__") 165, (.str (S "cpy313.smtplib") 331)⟩, ⟨H P (S "__doc__"), .str (S "__doc__") 166, .none⟩, ⟨H P (S "__package__"), .str (S "__package__") 167, .none⟩, ⟨H P (S "__loader__"), .str (S "__loader__") 168, (.builtin "__main__.__loader__#opaque")⟩, ⟨H P (S "__spec__"), .str (S "__spec__") 169, .none⟩, ⟨H P (S "__annotations__"), .str (S "__annotations__") 170, (.ref 6)⟩, ⟨H P (S "__builtins__"), .str (S "__builtins__") 171, (.ref 4)⟩, ⟨H P (S "__file__"), .str (S "__file__") 173, (.str (S "/claim/cut.py") 172)⟩, ⟨H P (S "__cached__"), .str (S "__cached__") 174, .none⟩, ⟨H P (S "_sre"), .str (S "_sre") 275, (.ref 12)⟩, ⟨H P (S "Error"), .str (S "Error") 303, (.ref 41)⟩, ⟨H P (S "error_reply"), .str (S "error_reply") 319, (.ref 54)⟩, ⟨H P (S "parse257"), .str (S "parse257") 330, (.ref 63)⟩, ⟨H P (S "_twin_re_1"), .str (S "_twin_re_1") 348, (.ref 68)⟩, ⟨H P (S "_twin_re_2"), .str (S "_twin_re_2") 390, (.ref 73)⟩, ⟨H P (S "CRLF"), .str (S "CRLF") 392, (.str (PySem.Str.mk #[13, 10]) 391)⟩] 16), #[]⟩
noncomputable def T8 (P : Params) : BT := treeOf [h0se P, h1se P, h2s2 P, h3s8 P, h4se P, h5se P, h6se P, h7se P, h8se P, h9se P, h10se P, h11s0 P, h12se P, h13se P, h14se P, h15se P, h16se P, h17se P, h18se P, h19se P, h20se P, h21se P, h22se P, h23se P, h24se P, h25se P, h26se P, h27se P, h28sa P, h29s4 P, h30sa P, h31sa P, h32s2 P, h33s2 P, h34s2 P, h35s2 P, h36s2 P, h37s2 P, h38s2 P, h39s2 P, h40s2 P, h41s3 P, h42s2 P, h43s2 P, h44s2 P, h45s3 P, h46s3 P, h47s3 P, h48s3 P, h49s3 P, h50s3 P, h51s3 P, h52s3 P, h53s3 P, h54s3 P, h55s3 P, h56s3 P, h57s4 P, h58s4 P, h59s4 P, h60s4 P, h61s4 P, h62s4 P, h63s4 P, h64s6 P, h65s6 P, h66s6 P, h67s6 P, h68s6 P, h69s7 P, h70s7 P, h71s7 P, h72s7 P, h73s7 P]
noncomputable def h3s9 (P : Params) : Obj := ⟨(.type "dict"), none, (.dict #[⟨H P (S "__name__"), .str (S "__name__") 165, (.str (S "cpy313.smtplib") 331)⟩, ⟨H P (S "__doc__"), .str (S "__doc__") 166, .none⟩, ⟨H P (S "__package__"), .str (S "__package__") 167, .none⟩, ⟨H P (S "__loader__"), .str (S "__loader__") 168, (.builtin "__main__.__loader__#opaque")⟩, ⟨H P (S "__spec__"), .str (S "__spec__") 169, .none⟩, ⟨H P (S "__annotations__"), .str (S "__annotations__") 170, (.ref 6)⟩, ⟨H P (S "__builtins__"), .str (S "__builtins__") 171, (.ref 4)⟩, ⟨H P (S "__file__"), .str (S "__file__") 173, (.str (S "/claim/cut.py") 172)⟩, ⟨H P (S "__cached__"), .str (S "__cached__") 174, .none⟩, ⟨H P (S "_sre"), .str (S "_sre") 275, (.ref 12)⟩, ⟨H P (S "Error"), .str (S "Error") 303, (.ref 41)⟩, ⟨H P (S "error_reply"), .str (S "error_reply") 319, (.ref 54)⟩, ⟨H P (S "parse257"), .str (S "parse257") 330, (.ref 63)⟩, ⟨H P (S "_twin_re_1"), .str (S "_twin_re_1") 348, (.ref 68)⟩, ⟨H P (S "_twin_re_2"), .str (S "_twin_re_2") 390, (.ref 73)⟩, ⟨H P (S "CRLF"), .str (S "CRLF") 392, (.str (PySem.Str.mk #[13, 10]) 391)⟩, ⟨H P (S "quotedata"), .str (S "quotedata") 399, (.ref 80)⟩] 17), #[]⟩
noncomputable def h29s9 (P : Params) : Obj := ⟨.none, none, (.fields #[(.int 3 0), (.int 0 0), (.ref 37), (.int 5 0), (.int 0 0), (.ref 50), (.int 7 0), (.int 0 0), (.ref 62), (.int 28 0), (.int 0 0), (.ref 79)]), #[]⟩
noncomputable def h74s9 (P : Params) : Obj := ⟨(.type "tuple"), none, (.seq #[] 0), #[]⟩
noncomputable def h75s9 (P : Params) : Obj := ⟨.none, none, (.fields #[]), #[]⟩
noncomputable def h76s9 (P : Params) : Obj := ⟨(.type "tuple"), none, (.seq #[(.str (S "data") 396)] 0), #[]⟩
noncomputable def h77s9 (P : Params) : Obj := ⟨(.type "tuple"), none, (.seq #[] 0), #[]⟩
noncomputable def h78s9 (P : Params) : Obj := ⟨.none, none, (.func { name := (S "quotedata"), qualname := (S "quotedata"), params := fpar9, body := .stmts fbody9, scope := fsco9, globals := 0, closure := [], defaults := .none, kwdefaults := .none, doc := .none, pyModule := .none, annotations := none, code := .none, closureTuple := .none, builtins := 0 }), #[]⟩
noncomputable def h79s9 (P : Params) : Obj := ⟨(.type "code"), none, (.fields #[(.str (S "quotedata") 393), (.str (S "quotedata") 394), (.str (S "/claim/cut.py") 395), (.int 28 0), (.int 1 0), (.int 0 0), (.int 0 0), (.int 3 0), (.ref 74), (.bool true), (.int 276 0), (.ref 75), .none, (.ref 76), (.ref 77), (.ref 78), (.int 397 0), (.int 28 0), (.str (S "/claim/cut.py") 398)]), #[]⟩
noncomputable def h80s9 (P : Params) : Obj := ⟨(.type "function"), none, (.func { name := (S "quotedata"), qualname := (S "quotedata"), params := fpar9, body := .stmts fbody9, scope := fsco9, globals := 3, closure := [], defaults := .none, kwdefaults := .none, doc := .none, pyModule := (.str (S "cpy313.smtplib") 331), annotations := none, code := (.ref 79), closureTuple := .none, builtins := 0 }), #[]⟩
noncomputable def T9 (P : Params) : BT := treeOf [h0se P, h1se P, h2s2 P, h3s9 P, h4se P, h5se P, h6se P, h7se P, h8se P, h9se P, h10se P, h11s0 P, h12se P, h13se P, h14se P, h15se P, h16se P, h17se P, h18se P, h19se P, h20se P, h21se P, h22se P, h23se P, h24se P, h25se P, h26se P, h27se P, h28sa P, h29s9 P, h30sa P, h31sa P, h32s2 P, h33s2 P, h34s2 P, h35s2 P, h36s2 P, h37s2 P, h38s2 P, h39s2 P, h40s2 P, h41s3 P, h42s2 P, h43s2 P, h44s2 P, h45s3 P, h46s3 P, h47s3 P, h48s3 P, h49s3 P, h50s3 P, h51s3 P, h52s3 P, h53s3 P, h54s3 P, h55s3 P, h56s3 P, h57s4 P, h58s4 P, h59s4 P, h60s4 P, h61s4 P, h62s4 P, h63s4 P, h64s6 P, h65s6 P, h66s6 P, h67s6 P, h68s6 P, h69s7 P, h70s7 P, h71s7 P, h72s7 P, h73s7 P, h74s9 P, h75s9 P, h76s9 P, h77s9 P, h78s9 P, h79s9 P, h80s9 P]
noncomputable def h3s10 (P : Params) : Obj := ⟨(.type "dict"), none, (.dict #[⟨H P (S "__name__"), .str (S "__name__") 165, (.str (S "cpy313.stringprep") 400)⟩, ⟨H P (S "__doc__"), .str (S "__doc__") 166, .none⟩, ⟨H P (S "__package__"), .str (S "__package__") 167, .none⟩, ⟨H P (S "__loader__"), .str (S "__loader__") 168, (.builtin "__main__.__loader__#opaque")⟩, ⟨H P (S "__spec__"), .str (S "__spec__") 169, .none⟩, ⟨H P (S "__annotations__"), .str (S "__annotations__") 170, (.ref 6)⟩, ⟨H P (S "__builtins__"), .str (S "__builtins__") 171, (.ref 4)⟩, ⟨H P (S "__file__"), .str (S "__file__") 173, (.str (S "/claim/cut.py") 172)⟩, ⟨H P (S "__cached__"), .str (S "__cached__") 174, .none⟩, ⟨H P (S "_sre"), .str (S "_sre") 275, (.ref 12)⟩, ⟨H P (S "Error"), .str (S "Error") 303, (.ref 41)⟩, ⟨H P (S "error_reply"), .str (S "error_reply") 319, (.ref 54)⟩, ⟨H P (S "parse257"), .str (S "parse257") 330, (.ref 63)⟩, ⟨H P (S "_twin_re_1"), .str (S "_twin_re_1") 348, (.ref 68)⟩, ⟨H P (S "_twin_re_2"), .str (S "_twin_re_2") 390, (.ref 73)⟩, ⟨H P (S "CRLF"), .str (S "CRLF") 392, (.str (PySem.Str.mk #[13, 10]) 391)⟩, ⟨H P (S "quotedata"), .str (S "quotedata") 399, (.ref 80)⟩] 17), #[]⟩
noncomputable def T10 (P : Params) : BT := treeOf [h0se P, h1se P, h2s2 P, h3s10 P, h4se P, h5se P, h6se P, h7se P, h8se P, h9se P, h10se P, h11s0 P, h12se P, h13se P, h14se P, h15se P, h16se P, h17se P, h18se P, h19se P, h20se P, h21se P, h22se P, h23se P, h24se P, h25se P, h26se P, h27se P, h28sa P, h29s9 P, h30sa P, h31sa P, h32s2 P, h33s2 P, h34s2 P, h35s2 P, h36s2 P, h37s2 P, h38s2 P, h39s2 P, h40s2 P, h41s3 P, h42s2 P, h43s2 P, h44s2 P, h45s3 P, h46s3 P, h47s3 P, h48s3 P, h49s3 P, h50s3 P, h51s3 P, h52s3 P, h53s3 P, h54s3 P, h55s3 P, h56s3 P, h57s4 P, h58s4 P, h59s4 P, h60s4 P, h61s4 P, h62s4 P, h63s4 P, h64s6 P, h65s6 P, h66s6 P, h67s6 P, h68s6 P, h69s7 P, h70s7 P, h71s7 P, h72s7 P, h73s7 P, h74s9 P, h75s9 P, h76s9 P, h77s9 P, h78s9 P, h79s9 P, h80s9 P]
noncomputable def h3s11 (P : Params) : Obj := ⟨(.type "dict"), none, (.dict #[⟨H P (S "__name__"), .str (S "__name__") 165, (.str (S "cpy313.stringprep") 400)⟩, ⟨H P (S "__doc__"), .str (S "__doc__") 166, .none⟩, ⟨H P (S "__package__"), .str (S "__package__") 167, .none⟩, ⟨H P (S "__loader__"), .str (S "__loader__") 168, (.builtin "__main__.__loader__#opaque")⟩, ⟨H P (S "__spec__"), .str (S "__spec__") 169, .none⟩, ⟨H P (S "__annotations__"), .str (S "__annotations__") 170, (.ref 6)⟩, ⟨H P (S "__builtins__"), .str (S "__builtins__") 171, (.ref 4)⟩, ⟨H P (S "__file__"), .str (S "__file__") 173, (.str (S "/claim/cut.py") 172)⟩, ⟨H P (S "__cached__"), .str (S "__cached__") 174, .none⟩, ⟨H P (S "_sre"), .str (S "_sre") 275, (.ref 12)⟩, ⟨H P (S "Error"), .str (S "Error") 303, (.ref 41)⟩, ⟨H P (S "error_reply"), .str (S "error_reply") 319, (.ref 54)⟩, ⟨H P (S "parse257"), .str (S "parse257") 330, (.ref 63)⟩, ⟨H P (S "_twin_re_1"), .str (S "_twin_re_1") 348, (.ref 68)⟩, ⟨H P (S "_twin_re_2"), .str (S "_twin_re_2") 390, (.ref 73)⟩, ⟨H P (S "CRLF"), .str (S "CRLF") 392, (.str (PySem.Str.mk #[13, 10]) 391)⟩, ⟨H P (S "quotedata"), .str (S "quotedata") 399, (.ref 80)⟩, ⟨H P (S "b1_set"), .str (S "b1_set") 461, (.ref 88)⟩] 18), #[]⟩
noncomputable def h81s11 (P : Params) : Obj := ⟨(.type "list"), none, (.seq #[(.int 173 402), (.int 847 403), (.int 6150 404), (.int 6155 405), (.int 6156 406), (.int 6157 407), (.int 8203 408), (.int 8204 409), (.int 8205 410), (.int 8288 411), (.int 65279 412)] 0), #[]⟩
noncomputable def h82s11 (P : Params) : Obj := ⟨(.type "range"), none, (.fields #[(.int 65024 413), (.int 65040 414), (.int 1 415)]), #[]⟩
noncomputable def h83s11 (P : Params) : Obj := ⟨(.type "list"), none, (.seq #[(.int 65024 418), (.int 65025 419), (.int 65026 420), (.int 65027 421), (.int 65028 422), (.int 65029 423), (.int 65030 424), (.int 65031 425), (.int 65032 426), (.int 65033 427), (.int 65034 428), (.int 65035 429), (.int 65036 430), (.int 65037 431), (.int 65038 432), (.int 65039 433)] 18), #[]⟩
noncomputable def h84s11 (P : Params) : Obj := ⟨(.type "range_iterator"), none, (.fields #[(.int 65040 0), (.int 0 0), (.int 1 0)]), #[]⟩
noncomputable def h85s11 (P : Params) : Obj := ⟨(.type "tuple"), none, (.seq #[] 0), #[]⟩
noncomputable def h86s11 (P : Params) : Obj := ⟨(.type "StopIteration"), none, (.fields #[(.ref 85), .none, .none, .none, (.bool false), .none]), #[]⟩
noncomputable def h87s11 (P : Params) : Obj := ⟨(.type "list"), none, (.seq #[(.int 173 402), (.int 847 403), (.int 6150 404), (.int 6155 405), (.int 6156 406), (.int 6157 407), (.int 8203 408), (.int 8204 409), (.int 8205 410), (.int 8288 411), (.int 65279 412), (.int 65024 418), (.int 65025 419), (.int 65026 420), (.int 65027 421), (.int 65028 422), (.int 65029 423), (.int 65030 424), (.int 65031 425), (.int 65032 426), (.int 65033 427), (.int 65034 428), (.int 65035 429), (.int 65036 430), (.int 65037 431), (.int 65038 432), (.int 65039 433)] 0), #[]⟩
noncomputable def h88s11 (P : Params) : Obj := ⟨(.type "set"), none, (.set #[(65024, (.int 65024 418)), (65025, (.int 65025 419)), (65026, (.int 65026 420)), (65027, (.int 65027 421)), (65028, (.int 65028 422)), (65029, (.int 65029 423)), (6150, (.int 6150 404)), (65030, (.int 65030 424)), (65031, (.int 65031 425)), (65032, (.int 65032 426)), (65033, (.int 65033 427)), (6155, (.int 6155 405)), (6156, (.int 6156 406)), (6157, (.int 6157 407)), (8203, (.int 8203 408)), (8204, (.int 8204 409)), (8205, (.int 8205 410)), (65034, (.int 65034 428)), (65035, (.int 65035 429)), (65036, (.int 65036 430)), (65037, (.int 65037 431)), (65038, (.int 65038 432)), (65039, (.int 65039 433)), (173, (.int 173 402)), (847, (.int 847 403)), (8288, (.int 8288 411)), (65279, (.int 65279 412))] 29 { mask := 127, place := #[0, 1, 2, 3, 4, 5, 6, 7, 8, 9, 10, 11, 12, 13, 14, 15, 16, 17, 18, 19, 20, 21, 22, 45, 79, 96, 127], dummies := #[], finger := 0, led := LED P, moves := 2, plain := true }), #[]⟩
noncomputable def h89s11 (P : Params) : Obj := ⟨(.type "list_iterator"), none, (.fields #[.none, (.int 27 0)]), #[]⟩
noncomputable def h90s11 (P : Params) : Obj := ⟨(.type "tuple"), none, (.seq #[] 0), #[]⟩
noncomputable def h91s11 (P : Params) : Obj := ⟨(.type "StopIteration"), none, (.fields #[(.ref 90), .none, .none, .none, (.bool false), .none]), #[]⟩
noncomputable def T11 (P : Params) : BT := treeOf [h0se P, h1se P, h2s2 P, h3s11 P, h4se P, h5se P, h6se P, h7se P, h8se P, h9se P, h10se P, h11s0 P, h12se P, h13se P, h14se P, h15se P, h16se P, h17se P, h18se P, h19se P, h20se P, h21se P, h22se P, h23se P, h24se P, h25se P, h26se P, h27se P, h28sa P, h29s9 P, h30sa P, h31sa P, h32s2 P, h33s2 P, h34s2 P, h35s2 P, h36s2 P, h37s2 P, h38s2 P, h39s2 P, h40s2 P, h41s3 P, h42s2 P, h43s2 P, h44s2 P, h45s3 P, h46s3 P, h47s3 P, h48s3 P, h49s3 P, h50s3 P, h51s3 P, h52s3 P, h53s3 P, h54s3 P, h55s3 P, h56s3 P, h57s4 P, h58s4 P, h59s4 P, h60s4 P, h61s4 P, h62s4 P, h63s4 P, h64s6 P, h65s6 P, h66s6 P, h67s6 P, h68s6 P, h69s7 P, h70s7 P, h71s7 P, h72s7 P, h73s7 P, h74s9 P, h75s9 P, h76s9 P, h77s9 P, h78s9 P, h79s9 P, h80s9 P, h81s11 P, h82s11 P, h83s11 P, h84s11 P, h85s11 P, h86s11 P, h87s11 P, h88s11 P, h89s11 P, h90s11 P, h91s11 P]
noncomputable def h3s12 (P : Params) : Obj := ⟨(.type "dict"), none, (.dict #[⟨H P (S "__name__"), .str (S "__name__") 165, (.str (S "cpy313.stringprep") 400)⟩, ⟨H P (S "__doc__"), .str (S "__doc__") 166, .none⟩, ⟨H P (S "__package__"), .str (S "__package__") 167, .none⟩, ⟨H P (S "__loader__"), .str (S "__loader__") 168, (.builtin "__main__.__loader__#opaque")⟩, ⟨H P (S "__spec__"), .str (S "__spec__") 169, .none⟩, ⟨H P (S "__annotations__"), .str (S "__annotations__") 170, (.ref 6)⟩, ⟨H P (S "__builtins__"), .str (S "__builtins__") 171, (.ref 4)⟩, ⟨H P (S "__file__"), .str (S "__file__") 173, (.str (S "/claim/cut.py") 172)⟩, ⟨H P (S "__cached__"), .str (S "__cached__") 174, .none⟩, ⟨H P (S "_sre"), .str (S "_sre") 275, (.ref 12)⟩, ⟨H P (S "Error"), .str (S "Error") 303, (.ref 41)⟩, ⟨H P (S "error_reply"), .str (S "error_reply") 319, (.ref 54)⟩, ⟨H P (S "parse257"), .str (S "parse257") 330, (.ref 63)⟩, ⟨H P (S "_twin_re_1"), .str (S "_twin_re_1") 348, (.ref 68)⟩, ⟨H P (S "_twin_re_2"), .str (S "_twin_re_2") 390, (.ref 73)⟩, ⟨H P (S "CRLF"), .str (S "CRLF") 392, (.str (PySem.Str.mk #[13, 10]) 391)⟩, ⟨H P (S "quotedata"), .str (S "quotedata") 399, (.ref 80)⟩, ⟨H P (S "b1_set"), .str (S "b1_set") 461, (.ref 88)⟩, ⟨H P (S "in_table_b1"), .str (S "in_table_b1") 468, (.ref 98)⟩] 19), #[]⟩
noncomputable def h29s12 (P : Params) : Obj := ⟨.none, none, (.fields #[(.int 3 0), (.int 0 0), (.ref 37), (.int 5 0), (.int 0 0), (.ref 50), (.int 7 0), (.int 0 0), (.ref 62), (.int 28 0), (.int 0 0), (.ref 79), (.int 32 0), (.int 0 0), (.ref 97)]), #[]⟩
noncomputable def h92s12 (P : Params) : Obj := ⟨(.type "tuple"), none, (.seq #[] 0), #[]⟩
noncomputable def h93s12 (P : Params) : Obj := ⟨.none, none, (.fields #[]), #[]⟩
noncomputable def h94s12 (P : Params) : Obj := ⟨(.type "tuple"), none, (.seq #[(.str (S "code") 465)] 0), #[]⟩
noncomputable def h95s12 (P : Params) : Obj := ⟨(.type "tuple"), none, (.seq #[] 0), #[]⟩
noncomputable def h96s12 (P : Params) : Obj := ⟨.none, none, (.func { name := (S "in_table_b1"), qualname := (S "in_table_b1"), params := fpar12, body := .stmts fbody12, scope := fsco12, globals := 0, closure := [], defaults := .none, kwdefaults := .none, doc := .none, pyModule := .none, annotations := none, code := .none, closureTuple := .none, builtins := 0 }), #[]⟩
noncomputable def h97s12 (P : Params) : Obj := ⟨(.type "code"), none, (.fields #[(.str (S "in_table_b1") 462), (.str (S "in_table_b1") 463), (.str (S "/claim/cut.py") 464), (.int 32 0), (.int 1 0), (.int 0 0), (.int 0 0), (.int 3 0), (.ref 92), (.bool true), (.int 276 0), (.ref 93), .none, (.ref 94), (.ref 95), (.ref 96), (.int 466 0), (.int 32 0), (.str (S "/claim/cut.py") 467)]), #[]⟩
noncomputable def h98s12 (P : Params) : Obj := ⟨(.type "function"), none, (.func { name := (S "in_table_b1"), qualname := (S "in_table_b1"), params := fpar12, body := .stmts fbody12, scope := fsco12, globals := 3, closure := [], defaults := .none, kwdefaults := .none, doc := .none, pyModule := (.str (S "cpy313.stringprep") 400), annotations := none, code := (.ref 97), closureTuple := .none, builtins := 0 }), #[]⟩
noncomputable def T12 (P : Params) : BT := treeOf [h0se P, h1se P, h2s2 P, h3s12 P, h4se P, h5se P, h6se P, h7se P, h8se P, h9se P, h10se P, h11s0 P, h12se P, h13se P, h14se P, h15se P, h16se P, h17se P, h18se P, h19se P, h20se P, h21se P, h22se P, h23se P, h24se P, h25se P, h26se P, h27se P, h28sa P, h29s12 P, h30sa P, h31sa P, h32s2 P, h33s2 P, h34s2 P, h35s2 P, h36s2 P, h37s2 P, h38s2 P, h39s2 P, h40s2 P, h41s3 P, h42s2 P, h43s2 P, h44s2 P, h45s3 P, h46s3 P, h47s3 P, h48s3 P, h49s3 P, h50s3 P, h51s3 P, h52s3 P, h53s3 P, h54s3 P, h55s3 P, h56s3 P, h57s4 P, h58s4 P, h59s4 P, h60s4 P, h61s4 P, h62s4 P, h63s4 P, h64s6 P, h65s6 P, h66s6 P, h67s6 P, h68s6 P, h69s7 P, h70s7 P, h71s7 P, h72s7 P, h73s7 P, h74s9 P, h75s9 P, h76s9 P, h77s9 P, h78s9 P, h79s9 P, h80s9 P, h81s11 P, h82s11 P, h83s11 P, h84s11 P, h85s11 P, h86s11 P, h87s11 P, h88s11 P, h89s11 P, h90s11 P, h91s11 P, h92s12 P, h93s12 P, h94s12 P, h95s12 P, h96s12 P, h97s12 P, h98s12 P]
noncomputable def h3s13 (P : Params) : Obj := ⟨(.type "dict"), none, (.dict #[⟨H P (S "__name__"), .str (S "__name__") 165, (.str (S "cpy313.stringprep") 400)⟩, ⟨H P (S "__doc__"), .str (S "__doc__") 166, .none⟩, ⟨H P (S "__package__"), .str (S "__package__") 167, .none⟩, ⟨H P (S "__loader__"), .str (S "__loader__") 168, (.builtin "__main__.__loader__#opaque")⟩, ⟨H P (S "__spec__"), .str (S "__spec__") 169, .none⟩, ⟨H P (S "__annotations__"), .str (S "__annotations__") 170, (.ref 6)⟩, ⟨H P (S "__builtins__"), .str (S "__builtins__") 171, (.ref 4)⟩, ⟨H P (S "__file__"), .str (S "__file__") 173, (.str (S "/claim/cut.py") 172)⟩, ⟨H P (S "__cached__"), .str (S "__cached__") 174, .none⟩, ⟨H P (S "_sre"), .str (S "_sre") 275, (.ref 12)⟩, ⟨H P (S "Error"), .str (S "Error") 303, (.ref 41)⟩, ⟨H P (S "error_reply"), .str (S "error_reply") 319, (.ref 54)⟩, ⟨H P (S "parse257"), .str (S "parse257") 330, (.ref 63)⟩, ⟨H P (S "_twin_re_1"), .str (S "_twin_re_1") 348, (.ref 68)⟩, ⟨H P (S "_twin_re_2"), .str (S "_twin_re_2") 390, (.ref 73)⟩, ⟨H P (S "CRLF"), .str (S "CRLF") 392, (.str (PySem.Str.mk #[13, 10]) 391)⟩, ⟨H P (S "quotedata"), .str (S "quotedata") 399, (.ref 80)⟩, ⟨H P (S "b1_set"), .str (S "b1_set") 461, (.ref 88)⟩, ⟨H P (S "in_table_b1"), .str (S "in_table_b1") 468, (.ref 98)⟩, ⟨H P (S "b3_exceptions"), .str (S "b3_exceptions") 2419, (.ref 99)⟩] 20), #[]⟩
noncomputable def h99s13 (P : Params) : Obj := dO (entsAt3 469 (b3pairs.take 646) ++ entsAt2 2407 (b3pairs.drop 646)).toArray 650
noncomputable def h100s13 (P : Params) : Obj := dO (entsAt3 520 ((b3pairs.drop 17).take 17)).toArray 17
noncomputable def h101s13 (P : Params) : Obj := dO (entsAt3 571 ((b3pairs.drop 34).take 17)).toArray 17
noncomputable def h102s13 (P : Params) : Obj := dO (entsAt3 622 ((b3pairs.drop 51).take 17)).toArray 17
noncomputable def h103s13 (P : Params) : Obj := dO (entsAt3 673 ((b3pairs.drop 68).take 17)).toArray 17
noncomputable def h104s13 (P : Params) : Obj := dO (entsAt3 724 ((b3pairs.drop 85).take 17)).toArray 17
noncomputable def h105s13 (P : Params) : Obj := dO (entsAt3 775 ((b3pairs.drop 102).take 17)).toArray 17
noncomputable def h106s13 (P : Params) : Obj := dO (entsAt3 826 ((b3pairs.drop 119).take 17)).toArray 17
noncomputable def h107s13 (P : Params) : Obj := dO (entsAt3 877 ((b3pairs.drop 136).take 17)).toArray 17
noncomputable def h108s13 (P : Params) : Obj := dO (entsAt3 928 ((b3pairs.drop 153).take 17)).toArray 17
noncomputable def h109s13 (P : Params) : Obj := dO (entsAt3 979 ((b3pairs.drop 170).take 17)).toArray 17
noncomputable def h110s13 (P : Params) : Obj := dO (entsAt3 1030 ((b3pairs.drop 187).take 17)).toArray 17
noncomputable def h111s13 (P : Params) : Obj := dO (entsAt3 1081 ((b3pairs.drop 204).take 17)).toArray 17
noncomputable def h112s13 (P : Params) : Obj := dO (entsAt3 1132 ((b3pairs.drop 221).take 17)).toArray 17
noncomputable def h113s13 (P : Params) : Obj := dO (entsAt3 1183 ((b3pairs.drop 238).take 17)).toArray 17
noncomputable def h114s13 (P : Params) : Obj := dO (entsAt3 1234 ((b3pairs.drop 255).take 17)).toArray 17
noncomputable def h115s13 (P : Params) : Obj := dO (entsAt3 1285 ((b3pairs.drop 272).take 17)).toArray 17
noncomputable def h116s13 (P : Params) : Obj := dO (entsAt3 1336 ((b3pairs.drop 289).take 17)).toArray 17
noncomputable def h117s13 (P : Params) : Obj := dO (entsAt3 1387 ((b3pairs.drop 306).take 17)).toArray 17
noncomputable def h118s13 (P : Params) : Obj := dO (entsAt3 1438 ((b3pairs.drop 323).take 17)).toArray 17
noncomputable def h119s13 (P : Params) : Obj := dO (entsAt3 1489 ((b3pairs.drop 340).take 17)).toArray 17
noncomputable def h120s13 (P : Params) : Obj := dO (entsAt3 1540 ((b3pairs.drop 357).take 17)).toArray 17
noncomputable def h121s13 (P : Params) : Obj := dO (entsAt3 1591 ((b3pairs.drop 374).take 17)).toArray 17
noncomputable def h122s13 (P : Params) : Obj := dO (entsAt3 1642 ((b3pairs.drop 391).take 17)).toArray 17
noncomputable def h123s13 (P : Params) : Obj := dO (entsAt3 1693 ((b3pairs.drop 408).take 17)).toArray 17
noncomputable def h124s13 (P : Params) : Obj := dO (entsAt3 1744 ((b3pairs.drop 425).take 17)).toArray 17
noncomputable def h125s13 (P : Params) : Obj := dO (entsAt3 1795 ((b3pairs.drop 442).take 17)).toArray 17
noncomputable def h126s13 (P : Params) : Obj := dO (entsAt3 1846 ((b3pairs.drop 459).take 17)).toArray 17
noncomputable def h127s13 (P : Params) : Obj := dO (entsAt3 1897 ((b3pairs.drop 476).take 17)).toArray 17
noncomputable def h128s13 (P : Params) : Obj := dO (entsAt3 1948 ((b3pairs.drop 493).take 17)).toArray 17
noncomputable def h129s13 (P : Params) : Obj := dO (entsAt3 1999 ((b3pairs.drop 510).take 17)).toArray 17
noncomputable def h130s13 (P : Params) : Obj := dO (entsAt3 2050 ((b3pairs.drop 527).take 17)).toArray 17
noncomputable def h131s13 (P : Params) : Obj := dO (entsAt3 2101 ((b3pairs.drop 544).take 17)).toArray 17
noncomputable def h132s13 (P : Params) : Obj := dO (entsAt3 2152 ((b3pairs.drop 561).take 17)).toArray 17
noncomputable def h133s13 (P : Params) : Obj := dO (entsAt3 2203 ((b3pairs.drop 578).take 17)).toArray 17
noncomputable def h134s13 (P : Params) : Obj := dO (entsAt3 2254 ((b3pairs.drop 595).take 17)).toArray 17
noncomputable def h135s13 (P : Params) : Obj := dO (entsAt3 2305 ((b3pairs.drop 612).take 17)).toArray 17
noncomputable def h136s13 (P : Params) : Obj := dO (entsAt3 2356 ((b3pairs.drop 629).take 17)).toArray 17
noncomputable def h137s13 (P : Params) : Obj := dO (entsAt2 2407 (b3pairs.drop 646)).toArray 4
noncomputable def T13 (P : Params) : BT := treeOf [h0se P, h1se P, h2s2 P, h3s13 P, h4se P, h5se P, h6se P, h7se P, h8se P, h9se P, h10se P, h11s0 P, h12se P, h13se P, h14se P, h15se P, h16se P, h17se P, h18se P, h19se P, h20se P, h21se P, h22se P, h23se P, h24se P, h25se P, h26se P, h27se P, h28sa P, h29s12 P, h30sa P, h31sa P, h32s2 P, h33s2 P, h34s2 P, h35s2 P, h36s2 P, h37s2 P, h38s2 P, h39s2 P, h40s2 P, h41s3 P, h42s2 P, h43s2 P, h44s2 P, h45s3 P, h46s3 P, h47s3 P, h48s3 P, h49s3 P, h50s3 P, h51s3 P, h52s3 P, h53s3 P, h54s3 P, h55s3 P, h56s3 P, h57s4 P, h58s4 P, h59s4 P, h60s4 P, h61s4 P, h62s4 P, h63s4 P, h64s6 P, h65s6 P, h66s6 P, h67s6 P, h68s6 P, h69s7 P, h70s7 P, h71s7 P, h72s7 P, h73s7 P, h74s9 P, h75s9 P, h76s9 P, h77s9 P, h78s9 P, h79s9 P, h80s9 P, h81s11 P, h82s11 P, h83s11 P, h84s11 P, h85s11 P, h86s11 P, h87s11 P, h88s11 P, h89s11 P, h90s11 P, h91s11 P, h92s12 P, h93s12 P, h94s12 P, h95s12 P, h96s12 P, h97s12 P, h98s12 P, h99s13 P, h100s13 P, h101s13 P, h102s13 P, h103s13 P, h104s13 P, h105s13 P, h106s13 P, h107s13 P, h108s13 P, h109s13 P, h110s13 P, h111s13 P, h112s13 P, h113s13 P, h114s13 P, h115s13 P, h116s13 P, h117s13 P, h118s13 P, h119s13 P, h120s13 P, h121s13 P, h122s13 P, h123s13 P, h124s13 P, h125s13 P, h126s13 P, h127s13 P, h128s13 P, h129s13 P, h130s13 P, h131s13 P, h132s13 P, h133s13 P, h134s13 P, h135s13 P, h136s13 P, h137s13 P]
noncomputable def h3s14 (P : Params) : Obj := ⟨(.type "dict"), none, (.dict #[⟨H P (S "__name__"), .str (S "__name__") 165, (.str (S "cpy313.stringprep") 400)⟩, ⟨H P (S "__doc__"), .str (S "__doc__") 166, .none⟩, ⟨H P (S "__package__"), .str (S "__package__") 167, .none⟩, ⟨H P (S "__loader__"), .str (S "__loader__") 168, (.builtin "__main__.__loader__#opaque")⟩, ⟨H P (S "__spec__"), .str (S "__spec__") 169, .none⟩, ⟨H P (S "__annotations__"), .str (S "__annotations__") 170, (.ref 6)⟩, ⟨H P (S "__builtins__"), .str (S "__builtins__") 171, (.ref 4)⟩, ⟨H P (S "__file__"), .str (S "__file__") 173, (.str (S "/claim/cut.py") 172)⟩, ⟨H P (S "__cached__"), .str (S "__cached__") 174, .none⟩, ⟨H P (S "_sre"), .str (S "_sre") 275, (.ref 12)⟩, ⟨H P (S "Error"), .str (S "Error") 303, (.ref 41)⟩, ⟨H P (S "error_reply"), .str (S "error_reply") 319, (.ref 54)⟩, ⟨H P (S "parse257"), .str (S "parse257") 330, (.ref 63)⟩, ⟨H P (S "_twin_re_1"), .str (S "_twin_re_1") 348, (.ref 68)⟩, ⟨H P (S "_twin_re_2"), .str (S "_twin_re_2") 390, (.ref 73)⟩, ⟨H P (S "CRLF"), .str (S "CRLF") 392, (.str (PySem.Str.mk #[13, 10]) 391)⟩, ⟨H P (S "quotedata"), .str (S "quotedata") 399, (.ref 80)⟩, ⟨H P (S "b1_set"), .str (S "b1_set") 461, (.ref 88)⟩, ⟨H P (S "in_table_b1"), .str (S "in_table_b1") 468, (.ref 98)⟩, ⟨H P (S "b3_exceptions"), .str (S "b3_exceptions") 2419, (.ref 99)⟩, ⟨H P (S "map_table_b3"), .str (S "map_table_b3") 2427, (.ref 144)⟩] 21), #[]⟩
noncomputable def h29s14 (P : Params) : Obj := ⟨.none, none, (.fields #[(.int 3 0), (.int 0 0), (.ref 37), (.int 5 0), (.int 0 0), (.ref 50), (.int 7 0), (.int 0 0), (.ref 62), (.int 28 0), (.int 0 0), (.ref 79), (.int 32 0), (.int 0 0), (.ref 97), (.int 35 0), (.int 0 0), (.ref 143)]), #[]⟩
noncomputable def h138s14 (P : Params) : Obj := ⟨(.type "tuple"), none, (.seq #[] 0), #[]⟩
noncomputable def h139s14 (P : Params) : Obj := ⟨.none, none, (.fields #[]), #[]⟩
noncomputable def h140s14 (P : Params) : Obj := ⟨(.type "tuple"), none, (.seq #[(.str (S "code") 2423), (.str (S "r") 2424)] 0), #[]⟩
noncomputable def h141s14 (P : Params) : Obj := ⟨(.type "tuple"), none, (.seq #[] 0), #[]⟩
noncomputable def h142s14 (P : Params) : Obj := ⟨.none, none, (.func { name := (S "map_table_b3"), qualname := (S "map_table_b3"), params := fpar14, body := .stmts fbody14, scope := fsco14, globals := 0, closure := [], defaults := .none, kwdefaults := .none, doc := .none, pyModule := .none, annotations := none, code := .none, closureTuple := .none, builtins := 0 }), #[]⟩
noncomputable def h143s14 (P : Params) : Obj := ⟨(.type "code"), none, (.fields #[(.str (S "map_table_b3") 2420), (.str (S "map_table_b3") 2421), (.str (S "/claim/cut.py") 2422), (.int 35 0), (.int 1 0), (.int 0 0), (.int 0 0), (.int 3 0), (.ref 138), (.bool true), (.int 276 0), (.ref 139), .none, (.ref 140), (.ref 141), (.ref 142), (.int 2425 0), (.int 35 0), (.str (S "/claim/cut.py") 2426)]), #[]⟩
noncomputable def h144s14 (P : Params) : Obj := ⟨(.type "function"), none, (.func { name := (S "map_table_b3"), qualname := (S "map_table_b3"), params := fpar14, body := .stmts fbody14, scope := fsco14, globals := 3, closure := [], defaults := .none, kwdefaults := .none, doc := .none, pyModule := (.str (S "cpy313.stringprep") 400), annotations := none, code := (.ref 143), closureTuple := .none, builtins := 0 }), #[]⟩
noncomputable def T14 (P : Params) : BT := treeOf [h0se P, h1se P, h2s2 P, h3s14 P, h4se P, h5se P, h6se P, h7se P, h8se P, h9se P, h10se P, h11s0 P, h12se P, h13se P, h14se P, h15se P, h16se P, h17se P, h18se P, h19se P, h20se P, h21se P, h22se P, h23se P, h24se P, h25se P, h26se P, h27se P, h28sa P, h29s14 P, h30sa P, h31sa P, h32s2 P, h33s2 P, h34s2 P, h35s2 P, h36s2 P, h37s2 P, h38s2 P, h39s2 P, h40s2 P, h41s3 P, h42s2 P, h43s2 P, h44s2 P, h45s3 P, h46s3 P, h47s3 P, h48s3 P, h49s3 P, h50s3 P, h51s3 P, h52s3 P, h53s3 P, h54s3 P, h55s3 P, h56s3 P, h57s4 P, h58s4 P, h59s4 P, h60s4 P, h61s4 P, h62s4 P, h63s4 P, h64s6 P, h65s6 P, h66s6 P, h67s6 P, h68s6 P, h69s7 P, h70s7 P, h71s7 P, h72s7 P, h73s7 P, h74s9 P, h75s9 P, h76s9 P, h77s9 P, h78s9 P, h79s9 P, h80s9 P, h81s11 P, h82s11 P, h83s11 P, h84s11 P, h85s11 P, h86s11 P, h87s11 P, h88s11 P, h89s11 P, h90s11 P, h91s11 P, h92s12 P, h93s12 P, h94s12 P, h95s12 P, h96s12 P, h97s12 P, h98s12 P, h99s13 P, h100s13 P, h101s13 P, h102s13 P, h103s13 P, h104s13 P, h105s13 P, h106s13 P, h107s13 P, h108s13 P, h109s13 P, h110s13 P, h111s13 P, h112s13 P, h113s13 P, h114s13 P, h115s13 P, h116s13 P, h117s13 P, h118s13 P, h119s13 P, h120s13 P, h121s13 P, h122s13 P, h123s13 P, h124s13 P, h125s13 P, h126s13 P, h127s13 P, h128s13 P, h129s13 P, h130s13 P, h131s13 P, h132s13 P, h133s13 P, h134s13 P, h135s13 P, h136s13 P, h137s13 P, h138s14 P, h139s14 P, h140s14 P, h141s14 P, h142s14 P, h143s14 P, h144s14 P]
noncomputable def h3s15 (P : Params) : Obj := ⟨(.type "dict"), none, (.dict #[⟨H P (S "__name__"), .str (S "__name__") 165, (.str (S "law_tr0050_01") 2428)⟩, ⟨H P (S "__doc__"), .str (S "__doc__") 166, .none⟩, ⟨H P (S "__package__"), .str (S "__package__") 167, .none⟩, ⟨H P (S "__loader__"), .str (S "__loader__") 168, (.builtin "__main__.__loader__#opaque")⟩, ⟨H P (S "__spec__"), .str (S "__spec__") 169, .none⟩, ⟨H P (S "__annotations__"), .str (S "__annotations__") 170, (.ref 6)⟩, ⟨H P (S "__builtins__"), .str (S "__builtins__") 171, (.ref 4)⟩, ⟨H P (S "__file__"), .str (S "__file__") 173, (.str (S "/claim/cut.py") 172)⟩, ⟨H P (S "__cached__"), .str (S "__cached__") 174, .none⟩, ⟨H P (S "_sre"), .str (S "_sre") 275, (.ref 12)⟩, ⟨H P (S "Error"), .str (S "Error") 303, (.ref 41)⟩, ⟨H P (S "error_reply"), .str (S "error_reply") 319, (.ref 54)⟩, ⟨H P (S "parse257"), .str (S "parse257") 330, (.ref 63)⟩, ⟨H P (S "_twin_re_1"), .str (S "_twin_re_1") 348, (.ref 68)⟩, ⟨H P (S "_twin_re_2"), .str (S "_twin_re_2") 390, (.ref 73)⟩, ⟨H P (S "CRLF"), .str (S "CRLF") 392, (.str (PySem.Str.mk #[13, 10]) 391)⟩, ⟨H P (S "quotedata"), .str (S "quotedata") 399, (.ref 80)⟩, ⟨H P (S "b1_set"), .str (S "b1_set") 461, (.ref 88)⟩, ⟨H P (S "in_table_b1"), .str (S "in_table_b1") 468, (.ref 98)⟩, ⟨H P (S "b3_exceptions"), .str (S "b3_exceptions") 2419, (.ref 99)⟩, ⟨H P (S "map_table_b3"), .str (S "map_table_b3") 2427, (.ref 144)⟩] 21), #[]⟩
noncomputable def T15 (P : Params) : BT := treeOf [h0se P, h1se P, h2s2 P, h3s15 P, h4se P, h5se P, h6se P, h7se P, h8se P, h9se P, h10se P, h11s0 P, h12se P, h13se P, h14se P, h15se P, h16se P, h17se P, h18se P, h19se P, h20se P, h21se P, h22se P, h23se P, h24se P, h25se P, h26se P, h27se P, h28sa P, h29s14 P, h30sa P, h31sa P, h32s2 P, h33s2 P, h34s2 P, h35s2 P, h36s2 P, h37s2 P, h38s2 P, h39s2 P, h40s2 P, h41s3 P, h42s2 P, h43s2 P, h44s2 P, h45s3 P, h46s3 P, h47s3 P, h48s3 P, h49s3 P, h50s3 P, h51s3 P, h52s3 P, h53s3 P, h54s3 P, h55s3 P, h56s3 P, h57s4 P, h58s4 P, h59s4 P, h60s4 P, h61s4 P, h62s4 P, h63s4 P, h64s6 P, h65s6 P, h66s6 P, h67s6 P, h68s6 P, h69s7 P, h70s7 P, h71s7 P, h72s7 P, h73s7 P, h74s9 P, h75s9 P, h76s9 P, h77s9 P, h78s9 P, h79s9 P, h80s9 P, h81s11 P, h82s11 P, h83s11 P, h84s11 P, h85s11 P, h86s11 P, h87s11 P, h88s11 P, h89s11 P, h90s11 P, h91s11 P, h92s12 P, h93s12 P, h94s12 P, h95s12 P, h96s12 P, h97s12 P, h98s12 P, h99s13 P, h100s13 P, h101s13 P, h102s13 P, h103s13 P, h104s13 P, h105s13 P, h106s13 P, h107s13 P, h108s13 P, h109s13 P, h110s13 P, h111s13 P, h112s13 P, h113s13 P, h114s13 P, h115s13 P, h116s13 P, h117s13 P, h118s13 P, h119s13 P, h120s13 P, h121s13 P, h122s13 P, h123s13 P, h124s13 P, h125s13 P, h126s13 P, h127s13 P, h128s13 P, h129s13 P, h130s13 P, h131s13 P, h132s13 P, h133s13 P, h134s13 P, h135s13 P, h136s13 P, h137s13 P, h138s14 P, h139s14 P, h140s14 P, h141s14 P, h142s14 P, h143s14 P, h144s14 P]
noncomputable def h3s16 (P : Params) : Obj := ⟨(.type "dict"), none, (.dict #[⟨H P (S "__name__"), .str (S "__name__") 165, (.str (S "law_tr0050_01") 2428)⟩, ⟨H P (S "__doc__"), .str (S "__doc__") 166, .none⟩, ⟨H P (S "__package__"), .str (S "__package__") 167, .none⟩, ⟨H P (S "__loader__"), .str (S "__loader__") 168, (.builtin "__main__.__loader__#opaque")⟩, ⟨H P (S "__spec__"), .str (S "__spec__") 169, .none⟩, ⟨H P (S "__annotations__"), .str (S "__annotations__") 170, (.ref 6)⟩, ⟨H P (S "__builtins__"), .str (S "__builtins__") 171, (.ref 4)⟩, ⟨H P (S "__file__"), .str (S "__file__") 173, (.str (S "/claim/cut.py") 172)⟩, ⟨H P (S "__cached__"), .str (S "__cached__") 174, .none⟩, ⟨H P (S "_sre"), .str (S "_sre") 275, (.ref 12)⟩, ⟨H P (S "Error"), .str (S "Error") 303, (.ref 41)⟩, ⟨H P (S "error_reply"), .str (S "error_reply") 319, (.ref 54)⟩, ⟨H P (S "parse257"), .str (S "parse257") 330, (.ref 63)⟩, ⟨H P (S "_twin_re_1"), .str (S "_twin_re_1") 348, (.ref 68)⟩, ⟨H P (S "_twin_re_2"), .str (S "_twin_re_2") 390, (.ref 73)⟩, ⟨H P (S "CRLF"), .str (S "CRLF") 392, (.str (PySem.Str.mk #[13, 10]) 391)⟩, ⟨H P (S "quotedata"), .str (S "quotedata") 399, (.ref 80)⟩, ⟨H P (S "b1_set"), .str (S "b1_set") 461, (.ref 88)⟩, ⟨H P (S "in_table_b1"), .str (S "in_table_b1") 468, (.ref 98)⟩, ⟨H P (S "b3_exceptions"), .str (S "b3_exceptions") 2419, (.ref 99)⟩, ⟨H P (S "map_table_b3"), .str (S "map_table_b3") 2427, (.ref 144)⟩, ⟨H P (S "_law_unseen"), .str (S "_law_unseen") 2437, (.ref 151)⟩] 22), #[]⟩
noncomputable def h29s16 (P : Params) : Obj := ⟨.none, none, (.fields #[(.int 3 0), (.int 0 0), (.ref 37), (.int 5 0), (.int 0 0), (.ref 50), (.int 7 0), (.int 0 0), (.ref 62), (.int 28 0), (.int 0 0), (.ref 79), (.int 32 0), (.int 0 0), (.ref 97), (.int 35 0), (.int 0 0), (.ref 143), (.int 41 0), (.int 0 0), (.ref 150)]), #[]⟩
noncomputable def h145s16 (P : Params) : Obj := ⟨(.type "tuple"), none, (.seq #[] 0), #[]⟩
noncomputable def h146s16 (P : Params) : Obj := ⟨.none, none, (.fields #[]), #[]⟩
noncomputable def h147s16 (P : Params) : Obj := ⟨(.type "tuple"), none, (.seq #[(.str (S "k") 2433), (.str (S "codes") 2434)] 0), #[]⟩
noncomputable def h148s16 (P : Params) : Obj := ⟨(.type "tuple"), none, (.seq #[] 0), #[]⟩
noncomputable def h149s16 (P : Params) : Obj := ⟨.none, none, (.func { name := (S "_law_unseen"), qualname := (S "_law_unseen"), params := fpar16, body := .stmts fbody16, scope := fsco16, globals := 0, closure := [], defaults := .none, kwdefaults := .none, doc := .none, pyModule := .none, annotations := none, code := .none, closureTuple := .none, builtins := 0 }), #[]⟩
noncomputable def h150s16 (P : Params) : Obj := ⟨(.type "code"), none, (.fields #[(.str (S "_law_unseen") 2430), (.str (S "_law_unseen") 2431), (.str (S "/claim/cut.py") 2432), (.int 41 0), (.int 1 0), (.int 0 0), (.int 0 0), (.int 3 0), (.ref 145), (.bool true), (.int 276 0), (.ref 146), .none, (.ref 147), (.ref 148), (.ref 149), (.int 2435 0), (.int 41 0), (.str (S "/claim/cut.py") 2436)]), #[]⟩
noncomputable def h151s16 (P : Params) : Obj := ⟨(.type "function"), none, (.func { name := (S "_law_unseen"), qualname := (S "_law_unseen"), params := fpar16, body := .stmts fbody16, scope := fsco16, globals := 3, closure := [], defaults := .none, kwdefaults := .none, doc := .none, pyModule := (.str (S "law_tr0050_01") 2428), annotations := none, code := (.ref 150), closureTuple := .none, builtins := 0 }), #[]⟩
noncomputable def T16 (P : Params) : BT := treeOf [h0se P, h1se P, h2s2 P, h3s16 P, h4se P, h5se P, h6se P, h7se P, h8se P, h9se P, h10se P, h11s0 P, h12se P, h13se P, h14se P, h15se P, h16se P, h17se P, h18se P, h19se P, h20se P, h21se P, h22se P, h23se P, h24se P, h25se P, h26se P, h27se P, h28sa P, h29s16 P, h30sa P, h31sa P, h32s2 P, h33s2 P, h34s2 P, h35s2 P, h36s2 P, h37s2 P, h38s2 P, h39s2 P, h40s2 P, h41s3 P, h42s2 P, h43s2 P, h44s2 P, h45s3 P, h46s3 P, h47s3 P, h48s3 P, h49s3 P, h50s3 P, h51s3 P, h52s3 P, h53s3 P, h54s3 P, h55s3 P, h56s3 P, h57s4 P, h58s4 P, h59s4 P, h60s4 P, h61s4 P, h62s4 P, h63s4 P, h64s6 P, h65s6 P, h66s6 P, h67s6 P, h68s6 P, h69s7 P, h70s7 P, h71s7 P, h72s7 P, h73s7 P, h74s9 P, h75s9 P, h76s9 P, h77s9 P, h78s9 P, h79s9 P, h80s9 P, h81s11 P, h82s11 P, h83s11 P, h84s11 P, h85s11 P, h86s11 P, h87s11 P, h88s11 P, h89s11 P, h90s11 P, h91s11 P, h92s12 P, h93s12 P, h94s12 P, h95s12 P, h96s12 P, h97s12 P, h98s12 P, h99s13 P, h100s13 P, h101s13 P, h102s13 P, h103s13 P, h104s13 P, h105s13 P, h106s13 P, h107s13 P, h108s13 P, h109s13 P, h110s13 P, h111s13 P, h112s13 P, h113s13 P, h114s13 P, h115s13 P, h116s13 P, h117s13 P, h118s13 P, h119s13 P, h120s13 P, h121s13 P, h122s13 P, h123s13 P, h124s13 P, h125s13 P, h126s13 P, h127s13 P, h128s13 P, h129s13 P, h130s13 P, h131s13 P, h132s13 P, h133s13 P, h134s13 P, h135s13 P, h136s13 P, h137s13 P, h138s14 P, h139s14 P, h140s14 P, h141s14 P, h142s14 P, h143s14 P, h144s14 P, h145s16 P, h146s16 P, h147s16 P, h148s16 P, h149s16 P, h150s16 P, h151s16 P]
noncomputable def h3s17 (P : Params) : Obj := ⟨(.type "dict"), none, (.dict #[⟨H P (S "__name__"), .str (S "__name__") 165, (.str (S "law_tr0050_01") 2428)⟩, ⟨H P (S "__doc__"), .str (S "__doc__") 166, .none⟩, ⟨H P (S "__package__"), .str (S "__package__") 167, .none⟩, ⟨H P (S "__loader__"), .str (S "__loader__") 168, (.builtin "__main__.__loader__#opaque")⟩, ⟨H P (S "__spec__"), .str (S "__spec__") 169, .none⟩, ⟨H P (S "__annotations__"), .str (S "__annotations__") 170, (.ref 6)⟩, ⟨H P (S "__builtins__"), .str (S "__builtins__") 171, (.ref 4)⟩, ⟨H P (S "__file__"), .str (S "__file__") 173, (.str (S "/claim/cut.py") 172)⟩, ⟨H P (S "__cached__"), .str (S "__cached__") 174, .none⟩, ⟨H P (S "_sre"), .str (S "_sre") 275, (.ref 12)⟩, ⟨H P (S "Error"), .str (S "Error") 303, (.ref 41)⟩, ⟨H P (S "error_reply"), .str (S "error_reply") 319, (.ref 54)⟩, ⟨H P (S "parse257"), .str (S "parse257") 330, (.ref 63)⟩, ⟨H P (S "_twin_re_1"), .str (S "_twin_re_1") 348, (.ref 68)⟩, ⟨H P (S "_twin_re_2"), .str (S "_twin_re_2") 390, (.ref 73)⟩, ⟨H P (S "CRLF"), .str (S "CRLF") 392, (.str (PySem.Str.mk #[13, 10]) 391)⟩, ⟨H P (S "quotedata"), .str (S "quotedata") 399, (.ref 80)⟩, ⟨H P (S "b1_set"), .str (S "b1_set") 461, (.ref 88)⟩, ⟨H P (S "in_table_b1"), .str (S "in_table_b1") 468, (.ref 98)⟩, ⟨H P (S "b3_exceptions"), .str (S "b3_exceptions") 2419, (.ref 99)⟩, ⟨H P (S "map_table_b3"), .str (S "map_table_b3") 2427, (.ref 144)⟩, ⟨H P (S "_law_unseen"), .str (S "_law_unseen") 2437, (.ref 151)⟩, ⟨H P (S "_law_lasting"), .str (S "_law_lasting") 2443, (.ref 156)⟩] 23), #[]⟩
noncomputable def h29s17 (P : Params) : Obj := ⟨.none, none, (.fields #[(.int 3 0), (.int 0 0), (.ref 37), (.int 5 0), (.int 0 0), (.ref 50), (.int 7 0), (.int 0 0), (.ref 62), (.int 28 0), (.int 0 0), (.ref 79), (.int 32 0), (.int 0 0), (.ref 97), (.int 35 0), (.int 0 0), (.ref 143), (.int 41 0), (.int 0 0), (.ref 150), (.int 44 0), (.int 0 0), (.ref 155)]), #[]⟩
noncomputable def h152s17 (P : Params) : Obj := ⟨(.type "tuple"), none, (.seq #[] 0), #[]⟩
noncomputable def h153s17 (P : Params) : Obj := ⟨.none, none, (.fields #[]), #[]⟩
noncomputable def h154s17 (P : Params) : Obj := ⟨.none, none, (.func { name := (S "_law_lasting"), qualname := (S "_law_lasting"), params := fpar17, body := .stmts fbody17, scope := fsco17, globals := 0, closure := [], defaults := .none, kwdefaults := .none, doc := .none, pyModule := .none, annotations := none, code := .none, closureTuple := .none, builtins := 0 }), #[]⟩
noncomputable def h155s17 (P : Params) : Obj := ⟨(.type "code"), none, (.fields #[(.str (S "_law_lasting") 2438), (.str (S "_law_lasting") 2439), (.str (S "/claim/cut.py") 2440), (.int 44 0), (.int 1 0), (.int 0 0), (.int 0 0), (.int 3 0), (.ref 152), (.bool true), (.int 276 0), (.ref 153), .none, .none, .none, (.ref 154), (.int 2441 0), (.int 44 0), (.str (S "/claim/cut.py") 2442)]), #[]⟩
noncomputable def h156s17 (P : Params) : Obj := ⟨(.type "function"), none, (.func { name := (S "_law_lasting"), qualname := (S "_law_lasting"), params := fpar17, body := .stmts fbody17, scope := fsco17, globals := 3, closure := [], defaults := .none, kwdefaults := .none, doc := .none, pyModule := (.str (S "law_tr0050_01") 2428), annotations := none, code := (.ref 155), closureTuple := .none, builtins := 0 }), #[]⟩
noncomputable def T17 (P : Params) : BT := treeOf [h0se P, h1se P, h2s2 P, h3s17 P, h4se P, h5se P, h6se P, h7se P, h8se P, h9se P, h10se P, h11s0 P, h12se P, h13se P, h14se P, h15se P, h16se P, h17se P, h18se P, h19se P, h20se P, h21se P, h22se P, h23se P, h24se P, h25se P, h26se P, h27se P, h28sa P, h29s17 P, h30sa P, h31sa P, h32s2 P, h33s2 P, h34s2 P, h35s2 P, h36s2 P, h37s2 P, h38s2 P, h39s2 P, h40s2 P, h41s3 P, h42s2 P, h43s2 P, h44s2 P, h45s3 P, h46s3 P, h47s3 P, h48s3 P, h49s3 P, h50s3 P, h51s3 P, h52s3 P, h53s3 P, h54s3 P, h55s3 P, h56s3 P, h57s4 P, h58s4 P, h59s4 P, h60s4 P, h61s4 P, h62s4 P, h63s4 P, h64s6 P, h65s6 P, h66s6 P, h67s6 P, h68s6 P, h69s7 P, h70s7 P, h71s7 P, h72s7 P, h73s7 P, h74s9 P, h75s9 P, h76s9 P, h77s9 P, h78s9 P, h79s9 P, h80s9 P, h81s11 P, h82s11 P, h83s11 P, h84s11 P, h85s11 P, h86s11 P, h87s11 P, h88s11 P, h89s11 P, h90s11 P, h91s11 P, h92s12 P, h93s12 P, h94s12 P, h95s12 P, h96s12 P, h97s12 P, h98s12 P, h99s13 P, h100s13 P, h101s13 P, h102s13 P, h103s13 P, h104s13 P, h105s13 P, h106s13 P, h107s13 P, h108s13 P, h109s13 P, h110s13 P, h111s13 P, h112s13 P, h113s13 P, h114s13 P, h115s13 P, h116s13 P, h117s13 P, h118s13 P, h119s13 P, h120s13 P, h121s13 P, h122s13 P, h123s13 P, h124s13 P, h125s13 P, h126s13 P, h127s13 P, h128s13 P, h129s13 P, h130s13 P, h131s13 P, h132s13 P, h133s13 P, h134s13 P, h135s13 P, h136s13 P, h137s13 P, h138s14 P, h139s14 P, h140s14 P, h141s14 P, h142s14 P, h143s14 P, h144s14 P, h145s16 P, h146s16 P, h147s16 P, h148s16 P, h149s16 P, h150s16 P, h151s16 P, h152s17 P, h153s17 P, h154s17 P, h155s17 P, h156s17 P]
noncomputable def h3s18 (P : Params) : Obj := ⟨(.type "dict"), none, (.dict #[⟨H P (S "__name__"), .str (S "__name__") 165, (.str (S "law_tr0050_01") 2428)⟩, ⟨H P (S "__doc__"), .str (S "__doc__") 166, .none⟩, ⟨H P (S "__package__"), .str (S "__package__") 167, .none⟩, ⟨H P (S "__loader__"), .str (S "__loader__") 168, (.builtin "__main__.__loader__#opaque")⟩, ⟨H P (S "__spec__"), .str (S "__spec__") 169, .none⟩, ⟨H P (S "__annotations__"), .str (S "__annotations__") 170, (.ref 6)⟩, ⟨H P (S "__builtins__"), .str (S "__builtins__") 171, (.ref 4)⟩, ⟨H P (S "__file__"), .str (S "__file__") 173, (.str (S "/claim/cut.py") 172)⟩, ⟨H P (S "__cached__"), .str (S "__cached__") 174, .none⟩, ⟨H P (S "_sre"), .str (S "_sre") 275, (.ref 12)⟩, ⟨H P (S "Error"), .str (S "Error") 303, (.ref 41)⟩, ⟨H P (S "error_reply"), .str (S "error_reply") 319, (.ref 54)⟩, ⟨H P (S "parse257"), .str (S "parse257") 330, (.ref 63)⟩, ⟨H P (S "_twin_re_1"), .str (S "_twin_re_1") 348, (.ref 68)⟩, ⟨H P (S "_twin_re_2"), .str (S "_twin_re_2") 390, (.ref 73)⟩, ⟨H P (S "CRLF"), .str (S "CRLF") 392, (.str (PySem.Str.mk #[13, 10]) 391)⟩, ⟨H P (S "quotedata"), .str (S "quotedata") 399, (.ref 80)⟩, ⟨H P (S "b1_set"), .str (S "b1_set") 461, (.ref 88)⟩, ⟨H P (S "in_table_b1"), .str (S "in_table_b1") 468, (.ref 98)⟩, ⟨H P (S "b3_exceptions"), .str (S "b3_exceptions") 2419, (.ref 99)⟩, ⟨H P (S "map_table_b3"), .str (S "map_table_b3") 2427, (.ref 144)⟩, ⟨H P (S "_law_unseen"), .str (S "_law_unseen") 2437, (.ref 151)⟩, ⟨H P (S "_law_lasting"), .str (S "_law_lasting") 2443, (.ref 156)⟩, ⟨H P (S "_law_signs"), .str (S "_law_signs") 2455, (.ref 163)⟩] 24), #[]⟩
noncomputable def h29s18 (P : Params) : Obj := ⟨.none, none, (.fields #[(.int 3 0), (.int 0 0), (.ref 37), (.int 5 0), (.int 0 0), (.ref 50), (.int 7 0), (.int 0 0), (.ref 62), (.int 28 0), (.int 0 0), (.ref 79), (.int 32 0), (.int 0 0), (.ref 97), (.int 35 0), (.int 0 0), (.ref 143), (.int 41 0), (.int 0 0), (.ref 150), (.int 44 0), (.int 0 0), (.ref 155), (.int 48 0), (.int 0 0), (.ref 162)]), #[]⟩
noncomputable def h157s18 (P : Params) : Obj := ⟨(.type "tuple"), none, (.seq #[] 0), #[]⟩
noncomputable def h158s18 (P : Params) : Obj := ⟨.none, none, (.fields #[]), #[]⟩
noncomputable def h159s18 (P : Params) : Obj := ⟨(.type "tuple"), none, (.seq #[(.str (S "numbers") 2447), (.str (S "signs") 2448), (.str (S "n") 2449), (.str (S "kind") 2450), (.str (S "sign") 2451), (.str (S "fold") 2452)] 0), #[]⟩
noncomputable def h160s18 (P : Params) : Obj := ⟨(.type "tuple"), none, (.seq #[] 0), #[]⟩
noncomputable def h161s18 (P : Params) : Obj := ⟨.none, none, (.func { name := (S "_law_signs"), qualname := (S "_law_signs"), params := fpar18, body := .stmts fbody18, scope := fsco18, globals := 0, closure := [], defaults := .none, kwdefaults := .none, doc := .none, pyModule := .none, annotations := none, code := .none, closureTuple := .none, builtins := 0 }), #[]⟩
noncomputable def h162s18 (P : Params) : Obj := ⟨(.type "code"), none, (.fields #[(.str (S "_law_signs") 2444), (.str (S "_law_signs") 2445), (.str (S "/claim/cut.py") 2446), (.int 48 0), (.int 1 0), (.int 0 0), (.int 0 0), (.int 3 0), (.ref 157), (.bool true), (.int 276 0), (.ref 158), .none, (.ref 159), (.ref 160), (.ref 161), (.int 2453 0), (.int 48 0), (.str (S "/claim/cut.py") 2454)]), #[]⟩
noncomputable def h163s18 (P : Params) : Obj := ⟨(.type "function"), none, (.func { name := (S "_law_signs"), qualname := (S "_law_signs"), params := fpar18, body := .stmts fbody18, scope := fsco18, globals := 3, closure := [], defaults := .none, kwdefaults := .none, doc := .none, pyModule := (.str (S "law_tr0050_01") 2428), annotations := none, code := (.ref 162), closureTuple := .none, builtins := 0 }), #[]⟩
noncomputable def T18 (P : Params) : BT := treeOf [h0se P, h1se P, h2s2 P, h3s18 P, h4se P, h5se P, h6se P, h7se P, h8se P, h9se P, h10se P, h11s0 P, h12se P, h13se P, h14se P, h15se P, h16se P, h17se P, h18se P, h19se P, h20se P, h21se P, h22se P, h23se P, h24se P, h25se P, h26se P, h27se P, h28sa P, h29s18 P, h30sa P, h31sa P, h32s2 P, h33s2 P, h34s2 P, h35s2 P, h36s2 P, h37s2 P, h38s2 P, h39s2 P, h40s2 P, h41s3 P, h42s2 P, h43s2 P, h44s2 P, h45s3 P, h46s3 P, h47s3 P, h48s3 P, h49s3 P, h50s3 P, h51s3 P, h52s3 P, h53s3 P, h54s3 P, h55s3 P, h56s3 P, h57s4 P, h58s4 P, h59s4 P, h60s4 P, h61s4 P, h62s4 P, h63s4 P, h64s6 P, h65s6 P, h66s6 P, h67s6 P, h68s6 P, h69s7 P, h70s7 P, h71s7 P, h72s7 P, h73s7 P, h74s9 P, h75s9 P, h76s9 P, h77s9 P, h78s9 P, h79s9 P, h80s9 P, h81s11 P, h82s11 P, h83s11 P, h84s11 P, h85s11 P, h86s11 P, h87s11 P, h88s11 P, h89s11 P, h90s11 P, h91s11 P, h92s12 P, h93s12 P, h94s12 P, h95s12 P, h96s12 P, h97s12 P, h98s12 P, h99s13 P, h100s13 P, h101s13 P, h102s13 P, h103s13 P, h104s13 P, h105s13 P, h106s13 P, h107s13 P, h108s13 P, h109s13 P, h110s13 P, h111s13 P, h112s13 P, h113s13 P, h114s13 P, h115s13 P, h116s13 P, h117s13 P, h118s13 P, h119s13 P, h120s13 P, h121s13 P, h122s13 P, h123s13 P, h124s13 P, h125s13 P, h126s13 P, h127s13 P, h128s13 P, h129s13 P, h130s13 P, h131s13 P, h132s13 P, h133s13 P, h134s13 P, h135s13 P, h136s13 P, h137s13 P, h138s14 P, h139s14 P, h140s14 P, h141s14 P, h142s14 P, h143s14 P, h144s14 P, h145s16 P, h146s16 P, h147s16 P, h148s16 P, h149s16 P, h150s16 P, h151s16 P, h152s17 P, h153s17 P, h154s17 P, h155s17 P, h156s17 P, h157s18 P, h158s18 P, h159s18 P, h160s18 P, h161s18 P, h162s18 P, h163s18 P]
noncomputable def h3s19 (P : Params) : Obj := ⟨(.type "dict"), none, (.dict #[⟨H P (S "__name__"), .str (S "__name__") 165, (.str (S "law_tr0050_01") 2428)⟩, ⟨H P (S "__doc__"), .str (S "__doc__") 166, .none⟩, ⟨H P (S "__package__"), .str (S "__package__") 167, .none⟩, ⟨H P (S "__loader__"), .str (S "__loader__") 168, (.builtin "__main__.__loader__#opaque")⟩, ⟨H P (S "__spec__"), .str (S "__spec__") 169, .none⟩, ⟨H P (S "__annotations__"), .str (S "__annotations__") 170, (.ref 6)⟩, ⟨H P (S "__builtins__"), .str (S "__builtins__") 171, (.ref 4)⟩, ⟨H P (S "__file__"), .str (S "__file__") 173, (.str (S "/claim/cut.py") 172)⟩, ⟨H P (S "__cached__"), .str (S "__cached__") 174, .none⟩, ⟨H P (S "_sre"), .str (S "_sre") 275, (.ref 12)⟩, ⟨H P (S "Error"), .str (S "Error") 303, (.ref 41)⟩, ⟨H P (S "error_reply"), .str (S "error_reply") 319, (.ref 54)⟩, ⟨H P (S "parse257"), .str (S "parse257") 330, (.ref 63)⟩, ⟨H P (S "_twin_re_1"), .str (S "_twin_re_1") 348, (.ref 68)⟩, ⟨H P (S "_twin_re_2"), .str (S "_twin_re_2") 390, (.ref 73)⟩, ⟨H P (S "CRLF"), .str (S "CRLF") 392, (.str (PySem.Str.mk #[13, 10]) 391)⟩, ⟨H P (S "quotedata"), .str (S "quotedata") 399, (.ref 80)⟩, ⟨H P (S "b1_set"), .str (S "b1_set") 461, (.ref 88)⟩, ⟨H P (S "in_table_b1"), .str (S "in_table_b1") 468, (.ref 98)⟩, ⟨H P (S "b3_exceptions"), .str (S "b3_exceptions") 2419, (.ref 99)⟩, ⟨H P (S "map_table_b3"), .str (S "map_table_b3") 2427, (.ref 144)⟩, ⟨H P (S "_law_unseen"), .str (S "_law_unseen") 2437, (.ref 151)⟩, ⟨H P (S "_law_lasting"), .str (S "_law_lasting") 2443, (.ref 156)⟩, ⟨H P (S "_law_signs"), .str (S "_law_signs") 2455, (.ref 163)⟩, ⟨H P (S "_law_walk"), .str (S "_law_walk") 2471, (.ref 170)⟩] 25), #[]⟩
noncomputable def h29s19 (P : Params) : Obj := ⟨.none, none, (.fields #[(.int 3 0), (.int 0 0), (.ref 37), (.int 5 0), (.int 0 0), (.ref 50), (.int 7 0), (.int 0 0), (.ref 62), (.int 28 0), (.int 0 0), (.ref 79), (.int 32 0), (.int 0 0), (.ref 97), (.int 35 0), (.int 0 0), (.ref 143), (.int 41 0), (.int 0 0), (.ref 150), (.int 44 0), (.int 0 0), (.ref 155), (.int 48 0), (.int 0 0), (.ref 162), (.int 66 0), (.int 0 0), (.ref 169)]), #[]⟩
noncomputable def h164s19 (P : Params) : Obj := ⟨(.type "tuple"), none, (.seq #[] 0), #[]⟩
noncomputable def h165s19 (P : Params) : Obj := ⟨.none, none, (.fields #[]), #[]⟩
noncomputable def h166s19 (P : Params) : Obj := ⟨(.type "tuple"), none, (.seq #[(.str (S "signs") 2459), (.str (S "by_reader") 2460), (.str (S "by_sender") 2461), (.str (S "at_start") 2462), (.str (S "told") 2463), (.str (S "ahead") 2464), (.str (S "half") 2465), (.str (S "kind") 2466), (.str (S "sign") 2467), (.str (S "fold") 2468)] 0), #[]⟩
noncomputable def h167s19 (P : Params) : Obj := ⟨(.type "tuple"), none, (.seq #[] 0), #[]⟩
noncomputable def h168s19 (P : Params) : Obj := ⟨.none, none, (.func { name := (S "_law_walk"), qualname := (S "_law_walk"), params := fpar19, body := .stmts fbody19, scope := fsco19, globals := 0, closure := [], defaults := .none, kwdefaults := .none, doc := .none, pyModule := .none, annotations := none, code := .none, closureTuple := .none, builtins := 0 }), #[]⟩
noncomputable def h169s19 (P : Params) : Obj := ⟨(.type "code"), none, (.fields #[(.str (S "_law_walk") 2456), (.str (S "_law_walk") 2457), (.str (S "/claim/cut.py") 2458), (.int 66 0), (.int 4 0), (.int 0 0), (.int 0 0), (.int 3 0), (.ref 164), (.bool true), (.int 276 0), (.ref 165), .none, (.ref 166), (.ref 167), (.ref 168), (.int 2469 0), (.int 66 0), (.str (S "/claim/cut.py") 2470)]), #[]⟩
noncomputable def h170s19 (P : Params) : Obj := ⟨(.type "function"), none, (.func { name := (S "_law_walk"), qualname := (S "_law_walk"), params := fpar19, body := .stmts fbody19, scope := fsco19, globals := 3, closure := [], defaults := .none, kwdefaults := .none, doc := .none, pyModule := (.str (S "law_tr0050_01") 2428), annotations := none, code := (.ref 169), closureTuple := .none, builtins := 0 }), #[]⟩
noncomputable def T19 (P : Params) : BT := treeOf [h0se P, h1se P, h2s2 P, h3s19 P, h4se P, h5se P, h6se P, h7se P, h8se P, h9se P, h10se P, h11s0 P, h12se P, h13se P, h14se P, h15se P, h16se P, h17se P, h18se P, h19se P, h20se P, h21se P, h22se P, h23se P, h24se P, h25se P, h26se P, h27se P, h28sa P, h29s19 P, h30sa P, h31sa P, h32s2 P, h33s2 P, h34s2 P, h35s2 P, h36s2 P, h37s2 P, h38s2 P, h39s2 P, h40s2 P, h41s3 P, h42s2 P, h43s2 P, h44s2 P, h45s3 P, h46s3 P, h47s3 P, h48s3 P, h49s3 P, h50s3 P, h51s3 P, h52s3 P, h53s3 P, h54s3 P, h55s3 P, h56s3 P, h57s4 P, h58s4 P, h59s4 P, h60s4 P, h61s4 P, h62s4 P, h63s4 P, h64s6 P, h65s6 P, h66s6 P, h67s6 P, h68s6 P, h69s7 P, h70s7 P, h71s7 P, h72s7 P, h73s7 P, h74s9 P, h75s9 P, h76s9 P, h77s9 P, h78s9 P, h79s9 P, h80s9 P, h81s11 P, h82s11 P, h83s11 P, h84s11 P, h85s11 P, h86s11 P, h87s11 P, h88s11 P, h89s11 P, h90s11 P, h91s11 P, h92s12 P, h93s12 P, h94s12 P, h95s12 P, h96s12 P, h97s12 P, h98s12 P, h99s13 P, h100s13 P, h101s13 P, h102s13 P, h103s13 P, h104s13 P, h105s13 P, h106s13 P, h107s13 P, h108s13 P, h109s13 P, h110s13 P, h111s13 P, h112s13 P, h113s13 P, h114s13 P, h115s13 P, h116s13 P, h117s13 P, h118s13 P, h119s13 P, h120s13 P, h121s13 P, h122s13 P, h123s13 P, h124s13 P, h125s13 P, h126s13 P, h127s13 P, h128s13 P, h129s13 P, h130s13 P, h131s13 P, h132s13 P, h133s13 P, h134s13 P, h135s13 P, h136s13 P, h137s13 P, h138s14 P, h139s14 P, h140s14 P, h141s14 P, h142s14 P, h143s14 P, h144s14 P, h145s16 P, h146s16 P, h147s16 P, h148s16 P, h149s16 P, h150s16 P, h151s16 P, h152s17 P, h153s17 P, h154s17 P, h155s17 P, h156s17 P, h157s18 P, h158s18 P, h159s18 P, h160s18 P, h161s18 P, h162s18 P, h163s18 P, h164s19 P, h165s19 P, h166s19 P, h167s19 P, h168s19 P, h169s19 P, h170s19 P]
noncomputable def h3s20 (P : Params) : Obj := ⟨(.type "dict"), none, (.dict #[⟨H P (S "__name__"), .str (S "__name__") 165, (.str (S "law_tr0050_01") 2428)⟩, ⟨H P (S "__doc__"), .str (S "__doc__") 166, .none⟩, ⟨H P (S "__package__"), .str (S "__package__") 167, .none⟩, ⟨H P (S "__loader__"), .str (S "__loader__") 168, (.builtin "__main__.__loader__#opaque")⟩, ⟨H P (S "__spec__"), .str (S "__spec__") 169, .none⟩, ⟨H P (S "__annotations__"), .str (S "__annotations__") 170, (.ref 6)⟩, ⟨H P (S "__builtins__"), .str (S "__builtins__") 171, (.ref 4)⟩, ⟨H P (S "__file__"), .str (S "__file__") 173, (.str (S "/claim/cut.py") 172)⟩, ⟨H P (S "__cached__"), .str (S "__cached__") 174, .none⟩, ⟨H P (S "_sre"), .str (S "_sre") 275, (.ref 12)⟩, ⟨H P (S "Error"), .str (S "Error") 303, (.ref 41)⟩, ⟨H P (S "error_reply"), .str (S "error_reply") 319, (.ref 54)⟩, ⟨H P (S "parse257"), .str (S "parse257") 330, (.ref 63)⟩, ⟨H P (S "_twin_re_1"), .str (S "_twin_re_1") 348, (.ref 68)⟩, ⟨H P (S "_twin_re_2"), .str (S "_twin_re_2") 390, (.ref 73)⟩, ⟨H P (S "CRLF"), .str (S "CRLF") 392, (.str (PySem.Str.mk #[13, 10]) 391)⟩, ⟨H P (S "quotedata"), .str (S "quotedata") 399, (.ref 80)⟩, ⟨H P (S "b1_set"), .str (S "b1_set") 461, (.ref 88)⟩, ⟨H P (S "in_table_b1"), .str (S "in_table_b1") 468, (.ref 98)⟩, ⟨H P (S "b3_exceptions"), .str (S "b3_exceptions") 2419, (.ref 99)⟩, ⟨H P (S "map_table_b3"), .str (S "map_table_b3") 2427, (.ref 144)⟩, ⟨H P (S "_law_unseen"), .str (S "_law_unseen") 2437, (.ref 151)⟩, ⟨H P (S "_law_lasting"), .str (S "_law_lasting") 2443, (.ref 156)⟩, ⟨H P (S "_law_signs"), .str (S "_law_signs") 2455, (.ref 163)⟩, ⟨H P (S "_law_walk"), .str (S "_law_walk") 2471, (.ref 170)⟩, ⟨H P (S "_law_hand"), .str (S "_law_hand") 2477, (.ref 175)⟩] 26), #[]⟩
noncomputable def h29s20 (P : Params) : Obj := ⟨.none, none, (.fields #[(.int 3 0), (.int 0 0), (.ref 37), (.int 5 0), (.int 0 0), (.ref 50), (.int 7 0), (.int 0 0), (.ref 62), (.int 28 0), (.int 0 0), (.ref 79), (.int 32 0), (.int 0 0), (.ref 97), (.int 35 0), (.int 0 0), (.ref 143), (.int 41 0), (.int 0 0), (.ref 150), (.int 44 0), (.int 0 0), (.ref 155), (.int 48 0), (.int 0 0), (.ref 162), (.int 66 0), (.int 0 0), (.ref 169), (.int 92 0), (.int 0 0), (.ref 174)]), #[]⟩
noncomputable def h171s20 (P : Params) : Obj := ⟨(.type "tuple"), none, (.seq #[] 0), #[]⟩
noncomputable def h172s20 (P : Params) : Obj := ⟨.none, none, (.fields #[]), #[]⟩
noncomputable def h173s20 (P : Params) : Obj := ⟨.none, none, (.func { name := (S "_law_hand"), qualname := (S "_law_hand"), params := fpar20, body := .stmts fbody20, scope := fsco20, globals := 0, closure := [], defaults := .none, kwdefaults := .none, doc := .none, pyModule := .none, annotations := none, code := .none, closureTuple := .none, builtins := 0 }), #[]⟩
noncomputable def h174s20 (P : Params) : Obj := ⟨(.type "code"), none, (.fields #[(.str (S "_law_hand") 2472), (.str (S "_law_hand") 2473), (.str (S "/claim/cut.py") 2474), (.int 92 0), (.int 2 0), (.int 0 0), (.int 0 0), (.int 3 0), (.ref 171), (.bool true), (.int 276 0), (.ref 172), .none, .none, .none, (.ref 173), (.int 2475 0), (.int 92 0), (.str (S "/claim/cut.py") 2476)]), #[]⟩
noncomputable def h175s20 (P : Params) : Obj := ⟨(.type "function"), none, (.func { name := (S "_law_hand"), qualname := (S "_law_hand"), params := fpar20, body := .stmts fbody20, scope := fsco20, globals := 3, closure := [], defaults := .none, kwdefaults := .none, doc := .none, pyModule := (.str (S "law_tr0050_01") 2428), annotations := none, code := (.ref 174), closureTuple := .none, builtins := 0 }), #[]⟩
noncomputable def T20 (P : Params) : BT := treeOf [h0se P, h1se P, h2s2 P, h3s20 P, h4se P, h5se P, h6se P, h7se P, h8se P, h9se P, h10se P, h11s0 P, h12se P, h13se P, h14se P, h15se P, h16se P, h17se P, h18se P, h19se P, h20se P, h21se P, h22se P, h23se P, h24se P, h25se P, h26se P, h27se P, h28sa P, h29s20 P, h30sa P, h31sa P, h32s2 P, h33s2 P, h34s2 P, h35s2 P, h36s2 P, h37s2 P, h38s2 P, h39s2 P, h40s2 P, h41s3 P, h42s2 P, h43s2 P, h44s2 P, h45s3 P, h46s3 P, h47s3 P, h48s3 P, h49s3 P, h50s3 P, h51s3 P, h52s3 P, h53s3 P, h54s3 P, h55s3 P, h56s3 P, h57s4 P, h58s4 P, h59s4 P, h60s4 P, h61s4 P, h62s4 P, h63s4 P, h64s6 P, h65s6 P, h66s6 P, h67s6 P, h68s6 P, h69s7 P, h70s7 P, h71s7 P, h72s7 P, h73s7 P, h74s9 P, h75s9 P, h76s9 P, h77s9 P, h78s9 P, h79s9 P, h80s9 P, h81s11 P, h82s11 P, h83s11 P, h84s11 P, h85s11 P, h86s11 P, h87s11 P, h88s11 P, h89s11 P, h90s11 P, h91s11 P, h92s12 P, h93s12 P, h94s12 P, h95s12 P, h96s12 P, h97s12 P, h98s12 P, h99s13 P, h100s13 P, h101s13 P, h102s13 P, h103s13 P, h104s13 P, h105s13 P, h106s13 P, h107s13 P, h108s13 P, h109s13 P, h110s13 P, h111s13 P, h112s13 P, h113s13 P, h114s13 P, h115s13 P, h116s13 P, h117s13 P, h118s13 P, h119s13 P, h120s13 P, h121s13 P, h122s13 P, h123s13 P, h124s13 P, h125s13 P, h126s13 P, h127s13 P, h128s13 P, h129s13 P, h130s13 P, h131s13 P, h132s13 P, h133s13 P, h134s13 P, h135s13 P, h136s13 P, h137s13 P, h138s14 P, h139s14 P, h140s14 P, h141s14 P, h142s14 P, h143s14 P, h144s14 P, h145s16 P, h146s16 P, h147s16 P, h148s16 P, h149s16 P, h150s16 P, h151s16 P, h152s17 P, h153s17 P, h154s17 P, h155s17 P, h156s17 P, h157s18 P, h158s18 P, h159s18 P, h160s18 P, h161s18 P, h162s18 P, h163s18 P, h164s19 P, h165s19 P, h166s19 P, h167s19 P, h168s19 P, h169s19 P, h170s19 P, h171s20 P, h172s20 P, h173s20 P, h174s20 P, h175s20 P]
noncomputable def h3s21 (P : Params) : Obj := ⟨(.type "dict"), none, (.dict #[⟨H P (S "__name__"), .str (S "__name__") 165, (.str (S "law_tr0050_01") 2428)⟩, ⟨H P (S "__doc__"), .str (S "__doc__") 166, .none⟩, ⟨H P (S "__package__"), .str (S "__package__") 167, .none⟩, ⟨H P (S "__loader__"), .str (S "__loader__") 168, (.builtin "__main__.__loader__#opaque")⟩, ⟨H P (S "__spec__"), .str (S "__spec__") 169, .none⟩, ⟨H P (S "__annotations__"), .str (S "__annotations__") 170, (.ref 6)⟩, ⟨H P (S "__builtins__"), .str (S "__builtins__") 171, (.ref 4)⟩, ⟨H P (S "__file__"), .str (S "__file__") 173, (.str (S "/claim/cut.py") 172)⟩, ⟨H P (S "__cached__"), .str (S "__cached__") 174, .none⟩, ⟨H P (S "_sre"), .str (S "_sre") 275, (.ref 12)⟩, ⟨H P (S "Error"), .str (S "Error") 303, (.ref 41)⟩, ⟨H P (S "error_reply"), .str (S "error_reply") 319, (.ref 54)⟩, ⟨H P (S "parse257"), .str (S "parse257") 330, (.ref 63)⟩, ⟨H P (S "_twin_re_1"), .str (S "_twin_re_1") 348, (.ref 68)⟩, ⟨H P (S "_twin_re_2"), .str (S "_twin_re_2") 390, (.ref 73)⟩, ⟨H P (S "CRLF"), .str (S "CRLF") 392, (.str (PySem.Str.mk #[13, 10]) 391)⟩, ⟨H P (S "quotedata"), .str (S "quotedata") 399, (.ref 80)⟩, ⟨H P (S "b1_set"), .str (S "b1_set") 461, (.ref 88)⟩, ⟨H P (S "in_table_b1"), .str (S "in_table_b1") 468, (.ref 98)⟩, ⟨H P (S "b3_exceptions"), .str (S "b3_exceptions") 2419, (.ref 99)⟩, ⟨H P (S "map_table_b3"), .str (S "map_table_b3") 2427, (.ref 144)⟩, ⟨H P (S "_law_unseen"), .str (S "_law_unseen") 2437, (.ref 151)⟩, ⟨H P (S "_law_lasting"), .str (S "_law_lasting") 2443, (.ref 156)⟩, ⟨H P (S "_law_signs"), .str (S "_law_signs") 2455, (.ref 163)⟩, ⟨H P (S "_law_walk"), .str (S "_law_walk") 2471, (.ref 170)⟩, ⟨H P (S "_law_hand"), .str (S "_law_hand") 2477, (.ref 175)⟩, ⟨H P (S "law"), .str (S "law") 2483, (.ref 180)⟩] 27), #[]⟩
noncomputable def h29s21 (P : Params) : Obj := ⟨.none, none, (.fields #[(.int 3 0), (.int 0 0), (.ref 37), (.int 5 0), (.int 0 0), (.ref 50), (.int 7 0), (.int 0 0), (.ref 62), (.int 28 0), (.int 0 0), (.ref 79), (.int 32 0), (.int 0 0), (.ref 97), (.int 35 0), (.int 0 0), (.ref 143), (.int 41 0), (.int 0 0), (.ref 150), (.int 44 0), (.int 0 0), (.ref 155), (.int 48 0), (.int 0 0), (.ref 162), (.int 66 0), (.int 0 0), (.ref 169), (.int 92 0), (.int 0 0), (.ref 174), (.int 103 0), (.int 0 0), (.ref 179)]), #[]⟩
noncomputable def h176s21 (P : Params) : Obj := ⟨(.type "tuple"), none, (.seq #[] 0), #[]⟩
noncomputable def h177s21 (P : Params) : Obj := ⟨.none, none, (.fields #[]), #[]⟩
noncomputable def h178s21 (P : Params) : Obj := ⟨.none, none, (.func { name := (S "law"), qualname := (S "law"), params := fpar21, body := .stmts fbody21, scope := fsco21, globals := 0, closure := [], defaults := .none, kwdefaults := .none, doc := .none, pyModule := .none, annotations := none, code := .none, closureTuple := .none, builtins := 0 }), #[]⟩
noncomputable def h179s21 (P : Params) : Obj := ⟨(.type "code"), none, (.fields #[(.str (S "law") 2478), (.str (S "law") 2479), (.str (S "/claim/cut.py") 2480), (.int 103 0), (.int 1 0), (.int 0 0), (.int 0 0), (.int 3 0), (.ref 176), (.bool true), (.int 276 0), (.ref 177), .none, .none, .none, (.ref 178), (.int 2481 0), (.int 103 0), (.str (S "/claim/cut.py") 2482)]), #[]⟩
noncomputable def h180s21 (P : Params) : Obj := ⟨(.type "function"), none, (.func { name := (S "law"), qualname := (S "law"), params := fpar21, body := .stmts fbody21, scope := fsco21, globals := 3, closure := [], defaults := .none, kwdefaults := .none, doc := .none, pyModule := (.str (S "law_tr0050_01") 2428), annotations := none, code := (.ref 179), closureTuple := .none, builtins := 0 }), #[]⟩
noncomputable def T21 (P : Params) : BT := treeOf [h0se P, h1se P, h2s2 P, h3s21 P, h4se P, h5se P, h6se P, h7se P, h8se P, h9se P, h10se P, h11s0 P, h12se P, h13se P, h14se P, h15se P, h16se P, h17se P, h18se P, h19se P, h20se P, h21se P, h22se P, h23se P, h24se P, h25se P, h26se P, h27se P, h28sa P, h29s21 P, h30sa P, h31sa P, h32s2 P, h33s2 P, h34s2 P, h35s2 P, h36s2 P, h37s2 P, h38s2 P, h39s2 P, h40s2 P, h41s3 P, h42s2 P, h43s2 P, h44s2 P, h45s3 P, h46s3 P, h47s3 P, h48s3 P, h49s3 P, h50s3 P, h51s3 P, h52s3 P, h53s3 P, h54s3 P, h55s3 P, h56s3 P, h57s4 P, h58s4 P, h59s4 P, h60s4 P, h61s4 P, h62s4 P, h63s4 P, h64s6 P, h65s6 P, h66s6 P, h67s6 P, h68s6 P, h69s7 P, h70s7 P, h71s7 P, h72s7 P, h73s7 P, h74s9 P, h75s9 P, h76s9 P, h77s9 P, h78s9 P, h79s9 P, h80s9 P, h81s11 P, h82s11 P, h83s11 P, h84s11 P, h85s11 P, h86s11 P, h87s11 P, h88s11 P, h89s11 P, h90s11 P, h91s11 P, h92s12 P, h93s12 P, h94s12 P, h95s12 P, h96s12 P, h97s12 P, h98s12 P, h99s13 P, h100s13 P, h101s13 P, h102s13 P, h103s13 P, h104s13 P, h105s13 P, h106s13 P, h107s13 P, h108s13 P, h109s13 P, h110s13 P, h111s13 P, h112s13 P, h113s13 P, h114s13 P, h115s13 P, h116s13 P, h117s13 P, h118s13 P, h119s13 P, h120s13 P, h121s13 P, h122s13 P, h123s13 P, h124s13 P, h125s13 P, h126s13 P, h127s13 P, h128s13 P, h129s13 P, h130s13 P, h131s13 P, h132s13 P, h133s13 P, h134s13 P, h135s13 P, h136s13 P, h137s13 P, h138s14 P, h139s14 P, h140s14 P, h141s14 P, h142s14 P, h143s14 P, h144s14 P, h145s16 P, h146s16 P, h147s16 P, h148s16 P, h149s16 P, h150s16 P, h151s16 P, h152s17 P, h153s17 P, h154s17 P, h155s17 P, h156s17 P, h157s18 P, h158s18 P, h159s18 P, h160s18 P, h161s18 P, h162s18 P, h163s18 P, h164s19 P, h165s19 P, h166s19 P, h167s19 P, h168s19 P, h169s19 P, h170s19 P, h171s20 P, h172s20 P, h173s20 P, h174s20 P, h175s20 P, h176s21 P, h177s21 P, h178s21 P, h179s21 P, h180s21 P]
noncomputable def Se (P : Params) (os : OsState) : SharedT := ⟨Te P, 28, {}, #[], {}, 276, os⟩
noncomputable def S0 (P : Params) (os : OsState) : SharedT := ⟨T0 P, 28, {}, #[], {}, 276, os⟩
noncomputable def Sa (P : Params) (os : OsState) : SharedT := ⟨Ta P, 32, {}, #[], {}, 282, os⟩
noncomputable def Sb (P : Params) (os : OsState) : SharedT := ⟨Tb P, 32, {}, #[], {}, 282, os⟩
noncomputable def S1 (P : Params) (os : OsState) : SharedT := ⟨T1 P, 32, {}, #[], {}, 284, os⟩
noncomputable def S2 (P : Params) (os : OsState) : SharedT := ⟨T2 P, 45, {}, #[], {}, 304, os⟩
noncomputable def S3 (P : Params) (os : OsState) : SharedT := ⟨T3 P, 57, {}, #[], {}, 320, os⟩
noncomputable def S4 (P : Params) (os : OsState) : SharedT := ⟨T4 P, 64, {}, #[], {}, 331, os⟩
noncomputable def S5 (P : Params) (os : OsState) : SharedT := ⟨T5 P, 64, {}, #[], {}, 333, os⟩
noncomputable def S6 (P : Params) (os : OsState) : SharedT := ⟨T6 P, 69, {}, #[], {}, 349, os⟩
noncomputable def S7 (P : Params) (os : OsState) : SharedT := ⟨T7 P, 74, {}, #[], {}, 391, os⟩
noncomputable def S8 (P : Params) (os : OsState) : SharedT := ⟨T8 P, 74, {}, #[], {}, 393, os⟩
noncomputable def S9 (P : Params) (os : OsState) : SharedT := ⟨T9 P, 81, {}, #[], {}, 400, os⟩
noncomputable def S10 (P : Params) (os : OsState) : SharedT := ⟨T10 P, 81, {}, #[], {}, 402, os⟩
noncomputable def S11 (P : Params) (os : OsState) : SharedT := ⟨T11 P, 92, {}, #[], {}, 462, os⟩
noncomputable def S12 (P : Params) (os : OsState) : SharedT := ⟨T12 P, 99, {}, #[], {}, 469, os⟩
noncomputable def S13 (P : Params) (os : OsState) : SharedT := ⟨T13 P, 138, {}, #[], {}, 2420, os⟩
noncomputable def S14 (P : Params) (os : OsState) : SharedT := ⟨T14 P, 145, {}, #[], {}, 2428, os⟩
noncomputable def S15 (P : Params) (os : OsState) : SharedT := ⟨T15 P, 145, {}, #[], {}, 2430, os⟩
noncomputable def S16 (P : Params) (os : OsState) : SharedT := ⟨T16 P, 152, {}, #[], {}, 2438, os⟩
noncomputable def S17 (P : Params) (os : OsState) : SharedT := ⟨T17 P, 157, {}, #[], {}, 2444, os⟩
noncomputable def S18 (P : Params) (os : OsState) : SharedT := ⟨T18 P, 164, {}, #[], {}, 2456, os⟩
noncomputable def S19 (P : Params) (os : OsState) : SharedT := ⟨T19 P, 171, {}, #[], {}, 2472, os⟩
noncomputable def S20 (P : Params) (os : OsState) : SharedT := ⟨T20 P, 176, {}, #[], {}, 2478, os⟩
noncomputable def S21 (P : Params) (os : OsState) : SharedT := ⟨T21 P, 181, {}, #[], {}, 2484, os⟩
noncomputable def envE : Env := { scope := pw.main.scope, locals := mainNs, globals := mainNs, cells := [], code := .ref 30, frame := some 31 }
noncomputable abbrev cTop : Code := .body (behindTheImports pw) envE
theorem segT {w : World} {n : Nat} {s : SharedT} {l : List Stmt} {env : Env} {c : Code} {p : Pos} {B : List Frame} : segRunT treeTable pw w 28 (some (.ref 6)) 1 n s (piecesOf l env c p B) =
    PySem.W.Fast.tw10110043849684766642 PySem.W.Fast.tw14364793385576792824 pw w 28 (some (.ref 6)) 1 n s ⟨(PySem.W.Fast.tw12563942051412417395 l env).wrap doneF deadEnd id id, c, p, B⟩ := by
  rw [← PySem.W.Fast.te10110043849684766642, ← PySem.W.Fast.te14364793385576792824, ← PySem.W.Fast.te12563942051412417395]
theorem segRun_after {w : World} {s s' : SharedT} {t t' : Thread} {k : Nat} {f : Flow} (h : segGoT treeTable pw w 28 (some (.ref 6)) 1 k s t = some (s', t')) (e : endAt 1 t' = some f) :
    segRunT treeTable pw w 28 (some (.ref 6)) 1 (k + 1) s t = some (f, s', t'.code, t'.pos) := by
  induction k generalizing s t with
  | zero =>
    simp only [segGoT, Option.some.injEq, Prod.mk.injEq] at h
    obtain ⟨rfl, rfl⟩ := h
    unfold segRunT
    rw [e]
  | succ k ih =>
    unfold segGoT at h
    unfold segRunT
    cases e1 : endAt 1 t with
    | some f => rw [e1] at h; cases h
    | none =>
      rw [e1] at h
      cases e2 : stepOk 28 (some (.ref 6)) t with
      | false => rw [e2] at h; cases h
      | true =>
        rw [e2] at h
        cases e3 : stepT (denote treeTable) pw w s t with
        | none => rw [e3] at h; cases h
        | some st => rw [e3] at h; exact ih h
theorem seg1 (w : World) (os : OsState) : segRunT treeTable pw w 28 (some (.ref 6)) 1 10 (Sb w.params os) (piecesOf (stm 1) envE cTop ⟨0, 0, 0, 0⟩ dtop) = some (.next, S1 w.params os, cTop, ⟨2, 0, 2, 8⟩) := (segT ..).trans (by kernel_rfl)
theorem seg2 (w : World) (os : OsState) : segRunT treeTable pw w 28 (some (.ref 6)) 1 197 (S1 w.params os) (piecesOf (stm 2) envE cTop ⟨2, 0, 2, 8⟩ dtop) = some (.next, S2 w.params os, cTop, ⟨3, 0, 4, 8⟩) := (segT ..).trans (by kernel_rfl)
theorem seg3 (w : World) (os : OsState) : segRunT treeTable pw w 28 (some (.ref 6)) 1 214 (S2 w.params os) (piecesOf (stm 3) envE cTop ⟨3, 0, 4, 8⟩ dtop) = some (.next, S3 w.params os, cTop, ⟨5, 0, 6, 8⟩) := (segT ..).trans (by kernel_rfl)
theorem seg4 (w : World) (os : OsState) : segRunT treeTable pw w 28 (some (.ref 6)) 1 34 (S3 w.params os) (piecesOf (stm 4) envE cTop ⟨5, 0, 6, 8⟩ dtop) = some (.next, S4 w.params os, cTop, ⟨7, 0, 23, 18⟩) := (segT ..).trans (by kernel_rfl)
theorem seg5 (w : World) (os : OsState) : segRunT treeTable pw w 28 (some (.ref 6)) 1 10 (S4 w.params os) (piecesOf (stm 5) envE cTop ⟨7, 0, 23, 18⟩ dtop) = some (.next, S5 w.params os, cTop, ⟨24, 0, 24, 8⟩) := (segT ..).trans (by kernel_rfl)
theorem seg6 (w : World) (os : OsState) : segRunT treeTable pw w 28 (some (.ref 6)) 1 60 (S5 w.params os) (piecesOf (stm 6) envE cTop ⟨24, 0, 24, 8⟩ dtop) = some (.next, S6 w.params os, cTop, ⟨25, 0, 25, 10⟩) := (segT ..).trans (by kernel_rfl)
theorem seg7 (w : World) (os : OsState) : segRunT treeTable pw w 28 (some (.ref 6)) 1 86 (S6 w.params os) (piecesOf (stm 7) envE cTop ⟨25, 0, 25, 10⟩ dtop) = some (.next, S7 w.params os, cTop, ⟨26, 0, 26, 10⟩) := (segT ..).trans (by kernel_rfl)
theorem seg8 (w : World) (os : OsState) : segRunT treeTable pw w 28 (some (.ref 6)) 1 10 (S7 w.params os) (piecesOf (stm 8) envE cTop ⟨26, 0, 26, 10⟩ dtop) = some (.next, S8 w.params os, cTop, ⟨27, 0, 27, 4⟩) := (segT ..).trans (by kernel_rfl)
theorem seg9 (w : World) (os : OsState) : segRunT treeTable pw w 28 (some (.ref 6)) 1 30 (S8 w.params os) (piecesOf (stm 9) envE cTop ⟨27, 0, 27, 4⟩ dtop) = some (.next, S9 w.params os, cTop, ⟨28, 0, 29, 59⟩) := (segT ..).trans (by kernel_rfl)
theorem seg10 (w : World) (os : OsState) : segRunT treeTable pw w 28 (some (.ref 6)) 1 10 (S9 w.params os) (piecesOf (stm 10) envE cTop ⟨28, 0, 29, 59⟩ dtop) = some (.next, S10 w.params os, cTop, ⟨30, 0, 30, 8⟩) := (segT ..).trans (by kernel_rfl)
theorem seg11ff (w : World) (os : OsState) : segRunT treeTable pw ((w.withFollow "special-get-raises" false).withFollow "set-order" false) 28 (some (.ref 6)) 1 999 (S10 ((w.withFollow "special-get-raises" false).withFollow "set-order" false).params os) (piecesOf (stm 11) envE cTop ⟨30, 0, 30, 8⟩ dtop) = some (.next, S11 ((w.withFollow "special-get-raises" false).withFollow "set-order" false).params os, cTop, ⟨31, 0, 31, 6⟩) := (segT ..).trans (by kernel_rfl)
theorem seg11ft (w : World) (os : OsState) : segRunT treeTable pw ((w.withFollow "special-get-raises" true).withFollow "set-order" false) 28 (some (.ref 6)) 1 999 (S10 ((w.withFollow "special-get-raises" true).withFollow "set-order" false).params os) (piecesOf (stm 11) envE cTop ⟨30, 0, 30, 8⟩ dtop) = some (.next, S11 ((w.withFollow "special-get-raises" true).withFollow "set-order" false).params os, cTop, ⟨31, 0, 31, 6⟩) := (segT ..).trans (by kernel_rfl)
theorem seg11tf (w : World) (os : OsState) : segRunT treeTable pw ((w.withFollow "special-get-raises" false).withFollow "set-order" true) 28 (some (.ref 6)) 1 999 (S10 ((w.withFollow "special-get-raises" false).withFollow "set-order" true).params os) (piecesOf (stm 11) envE cTop ⟨30, 0, 30, 8⟩ dtop) = some (.next, S11 ((w.withFollow "special-get-raises" false).withFollow "set-order" true).params os, cTop, ⟨31, 0, 31, 6⟩) := (segT ..).trans (by kernel_rfl)
theorem seg11tt (w : World) (os : OsState) : segRunT treeTable pw ((w.withFollow "special-get-raises" true).withFollow "set-order" true) 28 (some (.ref 6)) 1 999 (S10 ((w.withFollow "special-get-raises" true).withFollow "set-order" true).params os) (piecesOf (stm 11) envE cTop ⟨30, 0, 30, 8⟩ dtop) = some (.next, S11 ((w.withFollow "special-get-raises" true).withFollow "set-order" true).params os, cTop, ⟨31, 0, 31, 6⟩) := (segT ..).trans (by kernel_rfl)
theorem seg11 (w : World) (os : OsState) : segRunT treeTable pw w 28 (some (.ref 6)) 1 999 (S10 w.params os) (piecesOf (stm 11) envE cTop ⟨30, 0, 30, 8⟩ dtop) = some (.next, S11 w.params os, cTop, ⟨31, 0, 31, 6⟩) :=
  byRow2 "set-order" (P := fun w => segRunT treeTable pw w 28 (some (.ref 6)) 1 999 (S10 w.params os) (piecesOf (stm 11) envE cTop ⟨30, 0, 30, 8⟩ dtop) = some (.next, S11 w.params os, cTop, ⟨31, 0, 31, 6⟩)) (byRow2 "special-get-raises" (P := fun w => (fun w => segRunT treeTable pw w 28 (some (.ref 6)) 1 999 (S10 w.params os) (piecesOf (stm 11) envE cTop ⟨30, 0, 30, 8⟩ dtop) = some (.next, S11 w.params os, cTop, ⟨31, 0, 31, 6⟩)) (w.withFollow "set-order" false)) (fun w => seg11ff w os) (fun w => seg11ft w os)) (byRow2 "special-get-raises" (P := fun w => (fun w => segRunT treeTable pw w 28 (some (.ref 6)) 1 999 (S10 w.params os) (piecesOf (stm 11) envE cTop ⟨30, 0, 30, 8⟩ dtop) = some (.next, S11 w.params os, cTop, ⟨31, 0, 31, 6⟩)) (w.withFollow "set-order" true)) (fun w => seg11tf w os) (fun w => seg11tt w os)) w
theorem seg12 (w : World) (os : OsState) : segRunT treeTable pw w 28 (some (.ref 6)) 1 30 (S11 w.params os) (piecesOf (stm 12) envE cTop ⟨31, 0, 31, 6⟩ dtop) = some (.next, S12 w.params os, cTop, ⟨32, 0, 33, 30⟩) := (segT ..).trans (by kernel_rfl)
-- the dict display
noncomputable def b3asg : List Expr × List (Option Expr) × List Expr × Pos × Pos := match stm 13 with | [.Assign ts (.Dict ks vs p) q] => (ts, ks, vs, p, q) | _ => default
noncomputable def b3c0 : List (Int × PySem.Str) := b3pairs.take 17
noncomputable def b3cs : List (List (Int × PySem.Str)) := (List.range 37).map fun j => (b3pairs.drop (17 * j + 17)).take 17
noncomputable def b3last : List (Int × PySem.Str) := b3pairs.drop 646
noncomputable def ascB : List (Int × PySem.Str) → Bool
  | a :: b :: r => decide (a.1 < b.1) && ascB (b :: r)
  | _ => true
theorem asc_of : ∀ (l : List (Int × PySem.Str)), ascB l = true → l.Pairwise (fun a b => a.1 < b.1)
  | [], _ => .nil
  | [a], _ => List.pairwise_singleton _ _
  | a :: b :: r, h => by
    have h' : (decide (a.1 < b.1) && ascB (b :: r)) = true := h
    rw [Bool.and_eq_true, decide_eq_true_eq] at h'
    have ih := asc_of (b :: r) h'.2
    refine List.pairwise_cons.mpr ⟨fun q hq => ?_, ih⟩
    rcases List.mem_cons.mp hq with rfl | hq
    · exact h'.1
    · exact Int.lt_trans h'.1 ((List.pairwise_cons.mp ih).1 q hq)
noncomputable def b3all : List (Int × PySem.Str) := b3c0 ++ (b3cs.flatten ++ b3last)
theorem b3asc : b3all.Pairwise (fun a b => a.1 < b.1) := asc_of _ (by kernel_rfl)
theorem b3bound : ∀ q ∈ b3all, 0 ≤ q.1 ∧ q.1 < 2 ^ 60 := by
  have h : b3all.all (fun q => decide (0 ≤ q.1) && decide (q.1 < 2 ^ 60)) = true := by kernel_rfl
  intro q hq
  have := List.all_eq_true.mp h q hq
  rw [Bool.and_eq_true, decide_eq_true_eq, decide_eq_true_eq] at this
  exact this
theorem b3len : ∀ c ∈ b3cs, c.length = 17 := by
  have h : b3cs.all (fun c => c.length == 17) = true := by kernel_rfl
  intro c hc
  exact eq_of_beq (List.all_eq_true.mp h c hc)
theorem b3full (P : Params) : Full (T12 P) 99 := by
  have h : (List.range 99).all (fun m => ((T12 P).get m).isSome) = true := by kernel_rfl
  intro m hm
  exact List.all_eq_true.mp h m (List.mem_range.mpr hm)
theorem ev_b3 (w : World) (os : OsState) : Ev pw w cTop 12810 (sT os (T12 w.params) 99 469) b3asg.2.2.2.1 (dictDisplay (b3c0.map (it b3asg.2.2.2.1) ++ (b3cs.flatMap (fun c => c.map (it b3asg.2.2.2.1)) ++ b3last.map (it b3asg.2.2.2.1)))) (.ref 99)
      (sT os (finT (T12 w.params) 99 469 b3c0 b3cs b3last) (99 + 1 + b3cs.length + 1) (469 + 51 + 51 * b3cs.length + 3 * b3last.length)) b3asg.2.2.2.1 := by
  have hA := List.pairwise_append.mp b3asc
  have hB := List.pairwise_append.mp hA.2.1
  have hC := List.pairwise_flatten.mp hB.1
  have m1 : ∀ c ∈ b3cs, ∀ q ∈ c, q ∈ b3cs.flatten := fun c hc q hq => List.mem_flatten.mpr ⟨c, hc, hq⟩
  have l37 : b3cs.length = 37 := by kernel_rfl
  have l4 : b3last.length = 4 := by kernel_rfl
  refine Ev.le (ev_display (by decide) (b3full w.params) b3c0 b3cs b3last (by kernel_rfl) b3len (by intro h; rw [h] at l4; cases l4) (by rw [l4]; decide) (by rw [l37]; decide)
    (fun q hq => b3bound q (List.mem_append_left _ hq)) (fun c hc q hq => b3bound q (List.mem_append_right _ (List.mem_append_left _ (m1 c hc q hq)))) (fun q hq => b3bound q (List.mem_append_right _ (List.mem_append_right _ hq)))
    hA.1 hC.1 hB.2.1 (fun p hp c hc q hq => hA.2.2 p hp q (List.mem_append_left _ (m1 c hc q hq))) hC.2 (fun p hp q hq => hA.2.2 p hp q (List.mem_append_right _ hq)) (fun c hc p hp q hq => hB.2.2 p (m1 c hc p hp) q hq)) (by rw [l37]; decide)
theorem b3items : (evalEachOpt b3asg.2.1 envE).zip ((evalEach b3asg.2.2.1 envE).map fun v => do let x ← v; PySem.standAt b3asg.2.2.2.1; pure x) = b3c0.map (it b3asg.2.2.2.1) ++ (b3cs.flatMap (fun c => c.map (it b3asg.2.2.2.1)) ++ b3last.map (it b3asg.2.2.2.1)) := by kernel_rfl
noncomputable def Tm (P : Params) : BT := treeOf [h0se P, h1se P, h2s2 P, h3s12 P, h4se P, h5se P, h6se P, h7se P, h8se P, h9se P, h10se P, h11s0 P, h12se P, h13se P, h14se P, h15se P, h16se P, h17se P, h18se P, h19se P, h20se P, h21se P, h22se P, h23se P, h24se P, h25se P, h26se P, h27se P, h28sa P, h29s12 P, h30sa P, h31sa P, h32s2 P, h33s2 P, h34s2 P, h35s2 P, h36s2 P, h37s2 P, h38s2 P, h39s2 P, h40s2 P, h41s3 P, h42s2 P, h43s2 P, h44s2 P, h45s3 P, h46s3 P, h47s3 P, h48s3 P, h49s3 P, h50s3 P, h51s3 P, h52s3 P, h53s3 P, h54s3 P, h55s3 P, h56s3 P, h57s4 P, h58s4 P, h59s4 P, h60s4 P, h61s4 P, h62s4 P, h63s4 P, h64s6 P, h65s6 P, h66s6 P, h67s6 P, h68s6 P, h69s7 P, h70s7 P, h71s7 P, h72s7 P, h73s7 P, h74s9 P, h75s9 P, h76s9 P, h77s9 P, h78s9 P, h79s9 P, h80s9 P, h81s11 P, h82s11 P, h83s11 P, h84s11 P, h85s11 P, h86s11 P, h87s11 P, h88s11 P, h89s11 P, h90s11 P, h91s11 P, h92s12 P, h93s12 P, h94s12 P, h95s12 P, h96s12 P, h97s12 P, h98s12 P, h99s13 P, h100s13 P, h101s13 P, h102s13 P, h103s13 P, h104s13 P, h105s13 P, h106s13 P, h107s13 P, h108s13 P, h109s13 P, h110s13 P, h111s13 P, h112s13 P, h113s13 P, h114s13 P, h115s13 P, h116s13 P, h117s13 P, h118s13 P, h119s13 P, h120s13 P, h121s13 P, h122s13 P, h123s13 P, h124s13 P, h125s13 P, h126s13 P, h127s13 P, h128s13 P, h129s13 P, h130s13 P, h131s13 P, h132s13 P, h133s13 P, h134s13 P, h135s13 P, h136s13 P, h137s13 P]
theorem bt_set_set (f g : Obj → Obj) : ∀ (T : BT) (d : Nat), (T.set d f).set d g = T.set d fun o => g (f o)
  | .nil, _ => rfl
  | .node v l r, d => by
    rw [BT.set_node, BT.set_node v l r d fun o => g (f o)]
    by_cases h : d = 0
    · rw [if_pos h, if_pos h, BT.set_node, if_pos h]
    · rw [if_neg h, if_neg h]
      by_cases q : d % 2 = 1
      · rw [if_pos q, if_pos q, BT.set_node, if_neg h, if_pos q, bt_set_set f g l]
      · rw [if_neg q, if_neg q, BT.set_node, if_neg h, if_neg q, bt_set_set f g r]
theorem bt_set_id (f : Obj → Obj) (hf : ∀ o, f o = o) : ∀ (T : BT) (d : Nat), T.set d f = T
  | .nil, _ => rfl
  | .node v l r, d => by
    rw [BT.set_node, hf, bt_set_id f hf l, bt_set_id f hf r]
    by_cases h : d = 0
    · rw [if_pos h]
    · rw [if_neg h]
      by_cases q : d % 2 = 1
      · rw [if_pos q]
      · rw [if_neg q]
noncomputable def pushL (l : List DictEntry) : Obj → Obj
  | ⟨c, d, .dict es n, x⟩ => ⟨c, d, .dict ⟨es.toList ++ l⟩ (n + l.length), x⟩
  | o => o
theorem pushL_nil (o : Obj) : pushL [] o = o := by
  obtain ⟨c, d, dt, x⟩ := o
  cases dt <;> first | rfl | (simp [pushL])
theorem pushL_cons (y : DictEntry) (l : List DictEntry) (o : Obj) : pushL l (Obj.mapDictKeys (·.push y) o) = pushL (y :: l) o := by
  obtain ⟨c, d, dt, x⟩ := o
  cases dt <;> first | rfl | (simp [pushL, Obj.mapDictKeys]; omega)
theorem pushAll_fast (d : Nat) : ∀ (l : List DictEntry) (T : BT), pushAll d T l = T.set d (pushL l)
  | [], T => (bt_set_id _ pushL_nil T d).symm
  | y :: l, T => by
    rw [pushAll, pushAll_fast d l, bt_set_set]
    exact congrArg (T.set d) (funext fun o => pushL_cons y l o)
noncomputable def chunksF (d : Nat) : BT → Nat → Nat → List (List (Int × PySem.Str)) → BT
  | T, _, _, [] => T
  | T, n, t, c :: cs => chunksF d (((T.ins n (dO #[] 0)).set n (pushL (entsAt3 t c))).set d (pushL (entsAt3 t c))) (n + 1) (t + 51) cs
theorem chunks_fast (d : Nat) : ∀ (cs : List (List (Int × PySem.Str))) (T : BT) (n t : Nat), chunksT d T n t cs = chunksF d T n t cs
  | [], _, _, _ => rfl
  | c :: cs, T, n, t => by
    rw [chunksT, chunksF, chunks_fast d cs]
    unfold chunkT
    rw [pushAll_fast, pushAll_fast]
noncomputable def finF (T : BT) (n t : Nat) (c0 : List (Int × PySem.Str)) (cs : List (List (Int × PySem.Str))) (last : List (Int × PySem.Str)) : BT :=
  ((((chunksF n ((T.ins n (dO #[] 0)).set n (pushL (entsAt3 t c0))) (n + 1) (t + 51) cs).ins (n + 1 + cs.length) (dO #[] 0)).set (n + 1 + cs.length) (pushL (entsAt2 (t + 51 + 51 * cs.length) last))).set n (pushL (entsAt2 (t + 51 + 51 * cs.length) last)))
theorem fin_fast (T : BT) (n t : Nat) (c0 : List (Int × PySem.Str)) (cs : List (List (Int × PySem.Str))) (last : List (Int × PySem.Str)) : finT T n t c0 cs last = finF T n t c0 cs last := by
  unfold finT finF
  dsimp only
  rw [pushAll_fast, pushAll_fast, pushAll_fast, chunks_fast]
theorem b3tree (P : Params) (os : OsState) : sT os (finT (T12 P) 99 469 b3c0 b3cs b3last) (99 + 1 + b3cs.length + 1) (469 + 51 + 51 * b3cs.length + 3 * b3last.length) = sT os (Tm P) 138 2419 := by
  rw [fin_fast (T12 P) 99 469 b3c0 b3cs b3last]
  kernel_rfl
theorem b3swap : swappedStores b3asg.1 (.Dict b3asg.2.1 b3asg.2.2.1 b3asg.2.2.2.1) envE = .pure none := by kernel_rfl
theorem b3store (w : World) (os : OsState) (K : Flow → Sem Fin) (H : Value → Sem Fin) (gd : Bool → Bool) (lv : List Value → List Value) :
    segGoT treeTable pw w 28 (some (.ref 6)) 1 7 (sT os (Tm w.params) 138 2419) ⟨(assignStores envE (.ref 99) none ((assignEach b3asg.1 envE).map (·.2))).wrap K H gd lv, cTop, b3asg.2.2.2.1, dtop⟩ =
      some (S13 w.params os, ⟨K .next, cTop, ⟨34, 0, 34, 13⟩, dtop⟩) := by kernel_rfl
theorem b3exec (w : World) (os : OsState) : Ev pw w cTop 12840 (S12 w.params os) ⟨32, 0, 33, 30⟩ (exec (.Assign b3asg.1 (.Dict b3asg.2.1 b3asg.2.2.1 b3asg.2.2.2.1) b3asg.2.2.2.2) envE) .next (S13 w.params os) ⟨34, 0, 34, 13⟩ := by
  refine Ev.le (B := 12830 + 1) ?_ (by decide)
  refine Ev.bind (B := 1) (B' := 12830) (Ev.stand Ev.pure) ?_
  rw [show swapsWithSole b3asg.1 (.Dict b3asg.2.1 b3asg.2.2.1 b3asg.2.2.2.1) b3asg.2.2.2.2.line envE = .pure false from by kernel_rfl]
  refine Ev.bind (B := 0) (B' := 12830) Ev.pure ?_
  refine Ev.le (B := 7 + 0 + 12811) ?_ (by decide)
  refine Ev.bind (a := .ref 99) (s' := sT os (Tm w.params) 138 2419) (p' := b3asg.2.2.2.1) ?_ (by rw [b3swap]; exact Ev.bind (B := 0) Ev.pure (Ev.all (b3store w os)))
  have h := ev_b3 w os
  rw [b3tree] at h
  show Ev pw w cTop 12811 _ _ ((PySem.standAt b3asg.2.2.2.1).bind fun _ => dictDisplay ((evalEachOpt b3asg.2.1 envE).zip ((evalEach b3asg.2.2.1 envE).map fun v => do let x ← v; PySem.standAt b3asg.2.2.2.1; pure x))) _ _ _
  rw [b3items]
  exact Ev.bind (B := 1) (B' := 12810) (Ev.stand Ev.pure) h
theorem seg13 (w : World) (os : OsState) : ∃ n, n ≤ 12841 ∧ segRunT treeTable pw w 28 (some (.ref 6)) 1 n (S12 w.params os) (piecesOf (stm 13) envE cTop ⟨32, 0, 33, 30⟩ dtop) = some (.next, S13 w.params os, cTop, ⟨34, 0, 34, 13⟩) := by
  obtain ⟨k, hk, h⟩ := b3exec w os
  refine ⟨k + 1, by omega, ?_⟩
  have hst : stm 13 = [.Assign b3asg.1 (.Dict b3asg.2.1 b3asg.2.2.1 b3asg.2.2.2.1) b3asg.2.2.2.2] := by kernel_rfl
  have h := h (fun f => (match f with | .next => (execs [] envE).wrap doneF deadEnd id id | f => doneF f)) deadEnd id id
  rw [hst]
  unfold piecesOf
  rw [execs_cons_wrap]
  exact segRun_after h rfl
theorem seg14 (w : World) (os : OsState) : segRunT treeTable pw w 28 (some (.ref 6)) 1 31 (S13 w.params os) (piecesOf (stm 14) envE cTop ⟨34, 0, 34, 13⟩ dtop) = some (.next, S14 w.params os, cTop, ⟨35, 0, 39, 23⟩) := (segT ..).trans (by kernel_rfl)
theorem seg15 (w : World) (os : OsState) : segRunT treeTable pw w 28 (some (.ref 6)) 1 10 (S14 w.params os) (piecesOf (stm 15) envE cTop ⟨35, 0, 39, 23⟩ dtop) = some (.next, S15 w.params os, cTop, ⟨40, 0, 40, 8⟩) := (segT ..).trans (by kernel_rfl)
theorem seg16 (w : World) (os : OsState) : segRunT treeTable pw w 28 (some (.ref 6)) 1 31 (S15 w.params os) (piecesOf (stm 16) envE cTop ⟨40, 0, 40, 8⟩ dtop) = some (.next, S16 w.params os, cTop, ⟨41, 0, 43, 59⟩) := (segT ..).trans (by kernel_rfl)
theorem seg17 (w : World) (os : OsState) : segRunT treeTable pw w 28 (some (.ref 6)) 1 27 (S16 w.params os) (piecesOf (stm 17) envE cTop ⟨41, 0, 43, 59⟩ dtop) = some (.next, S17 w.params os, cTop, ⟨44, 0, 47, 71⟩) := (segT ..).trans (by kernel_rfl)
theorem seg18 (w : World) (os : OsState) : segRunT treeTable pw w 28 (some (.ref 6)) 1 35 (S17 w.params os) (piecesOf (stm 18) envE cTop ⟨44, 0, 47, 71⟩ dtop) = some (.next, S18 w.params os, cTop, ⟨48, 0, 65, 16⟩) := (segT ..).trans (by kernel_rfl)
theorem seg19 (w : World) (os : OsState) : segRunT treeTable pw w 28 (some (.ref 6)) 1 39 (S18 w.params os) (piecesOf (stm 19) envE cTop ⟨48, 0, 65, 16⟩ dtop) = some (.next, S19 w.params os, cTop, ⟨66, 0, 91, 15⟩) := (segT ..).trans (by kernel_rfl)
theorem seg20 (w : World) (os : OsState) : segRunT treeTable pw w 28 (some (.ref 6)) 1 27 (S19 w.params os) (piecesOf (stm 20) envE cTop ⟨66, 0, 91, 15⟩ dtop) = some (.next, S20 w.params os, cTop, ⟨92, 0, 102, 82⟩) := (segT ..).trans (by kernel_rfl)
theorem seg21 (w : World) (os : OsState) : segRunT treeTable pw w 28 (some (.ref 6)) 1 27 (S20 w.params os) (piecesOf (stm 21) envE cTop ⟨92, 0, 102, 82⟩ dtop) = some (.next, S21 w.params os, cTop, ⟨103, 0, 123, 15⟩) := (segT ..).trans (by kernel_rfl)
end Mine

end
section
open PySem PySem.W PyProof.Rows
set_option Elab.async false
set_option maxRecDepth 100000
set_option linter.unusedVariables false
namespace Mine
-- the load's opening
noncomputable def impF (st : SharedT → Thread → Option (SharedT × Thread)) : Nat → SharedT → Thread → Option SharedT
  | 0, _, _ => none
  | n + 1, s, t => match t.atExitBegin with
    | some [] => some s
    | some (_ :: _) => none
    | none => match st s t with
      | some (s', t') => impF st n s' t'
      | none => none
theorem impF_of {tb : String → Option Builtin} {p : Program} {w : World} : ∀ {n : Nat} {s s' : SharedT} {t : Thread}, impF (stepT (denote tb) p w) n s t = some s' → importEnds tb p w n s.abs t = some s'.abs
  | 0, _, _, _, h => by cases h
  | n + 1, s, s', t, h => by
    unfold impF at h
    unfold importEnds
    cases e : t.atExitBegin with
    | some l =>
      rw [e] at h
      cases l with
      | nil => cases h; rfl
      | cons => cases h
    | none =>
      rw [e] at h
      cases hs : stepT (denote tb) p w s t with
      | none => rw [hs] at h; cases h
      | some r => obtain ⟨s₂, t₂⟩ := r; rw [hs] at h; dsimp only; rw [stepT_spec hs]; exact impF_of h
noncomputable def Sz' (os : OsState) : SharedT := ⟨.nil, 0, {}, #[], {}, 1, os⟩
theorem imp_run (w : World) (os : OsState) : impF (stepT (denote treeTable) (opening pw) w) 799 (Sz' os) (start (opening pw)).2 = some (Se w.params os) := by
  rw [show stepT (denote treeTable) (opening pw) w = PySem.W.Fast.tw10156331382660048174 (PySem.W.Fast.tw11892475500146522536 PySem.W.Fast.tw14364793385576792824) (opening pw) w from by
    rw [PySem.W.Fast.te10156331382660048174, PySem.W.Fast.te11892475500146522536, PySem.W.Fast.te14364793385576792824]]
  kernel_rfl
noncomputable def He (P : Params) : Heap := absHeap (Te P) 28 {}
noncomputable def H0 (P : Params) : Heap := absHeap (T0 P) 28 {}
noncomputable def H1 (P : Params) : Heap := absHeap (T21 P) 181 {}
theorem open1 (w : World) : importEnds treeTable (opening pw) w 799 (start (opening pw)).1 (start (opening pw)).2 = some ⟨He w.params, #[], {}, 276, (start (opening pw)).1.os⟩ := by
  have h := impF_of (imp_run w (start (opening pw)).1.os)
  rw [show (Sz' (start (opening pw)).1.os).abs = (start (opening pw)).1 from by kernel_rfl] at h
  exact h.trans (by kernel_rfl)
theorem fence1 (w : World) : (fun os => (fenceModules? pw ⟨He w.params, #[], {}, 276, os⟩).map (fun s => (s.heap, s.gens, s.drawn, s.toks))) = fun _ => some (H0 w.params, #[], {}, 276) := by
  funext os
  rw [show fenceModules? = PySem.W.Fast.tw14289696077712309145 from by rw [PySem.W.Fast.te14289696077712309145]]
  kernel_rfl
theorem open2 : ∀ w : World, (fencedOpening treeTable pw w 30000).map (fun s => (s.heap, s.gens, s.drawn, s.toks)) = some (H0 w.params, #[], {}, 276) :=
  open_cut open1 (by decide) fence1
theorem size1 (w : World) : ((H0 w.params).isNs mainGlobals && (#[] : Array GenState).size == 0, (H0 w.params).objs.size, (H0 w.params).nsMap mainGlobals "__annotations__") = (true, 28, some (.ref 6)) := by kernel_rfl
theorem pre1 (w : World) (os : OsState) : topGo treeTable pw w 28 (some (.ref 6)) 12 (S0 w.params os).abs (topStub pw) = some ((Sa w.params os).abs, ⟨denote treeTable cTop, cTop, ⟨0, 0, 0, 0⟩, dtop⟩) := by
  rw [show topGo = PySem.W.Fast.tw15667345088766844465 from by rw [PySem.W.Fast.te15667345088766844465], show denote = PySem.W.Fast.tw11892475500146522536 from by rw [PySem.W.Fast.te11892475500146522536], show treeTable = PySem.W.Fast.tw14364793385576792824 from by rw [PySem.W.Fast.te14364793385576792824]]
  kernel_rfl
theorem block1 (w : World) (os : OsState) : segRun treeTable pw w 28 (some (.ref 6)) 1 1 (Sa w.params os).abs (blockOf (behindTheImports pw) envE cTop ⟨0, 0, 0, 0⟩ dtop) = some (.next, (Sb w.params os).abs, cTop, ⟨0, 0, 0, 0⟩) := by kernel_rfl
theorem fin1 (w : World) (os : OsState) : topRun treeTable pw w 28 (some (.ref 6)) 2 (S21 w.params os).abs ⟨doneF .next, cTop, ⟨103, 0, 123, 15⟩, dtop⟩ = some (S21 w.params os).abs := by kernel_rfl
theorem body1 : behindTheImports pw = stm 1 ++ (stm 2 ++ (stm 3 ++ (stm 4 ++ (stm 5 ++ (stm 6 ++ (stm 7 ++ (stm 8 ++ (stm 9 ++ (stm 10 ++ (stm 11 ++ (stm 12 ++ (stm 13 ++ (stm 14 ++ (stm 15 ++ (stm 16 ++ (stm 17 ++ (stm 18 ++ (stm 19 ++ (stm 20 ++ (stm 21 ++ [])))))))))))))))))))) := by kernel_rfl
theorem sum1 (n : Nat) (hn : n ≤ 12841) : ∃ j, 12 + (1 + (10 + (197 + (214 + (34 + (10 + (60 + (86 + (10 + (30 + (10 + (999 + (30 + (n + (31 + (10 + (31 + (27 + (35 + (39 + (27 + (27 + 2)))))))))))))))))))))) + j = 20000 := ⟨20000 - (12 + (1 + (10 + (197 + (214 + (34 + (10 + (60 + (86 + (10 + (30 + (10 + (999 + (30 + (n + (31 + (10 + (31 + (27 + (35 + (39 + (27 + (27 + 2))))))))))))))))))))))), by omega⟩
theorem run1 (w : World) (os : OsState) : topRun treeTable pw w 28 (some (.ref 6)) 20000 ⟨H0 w.params, #[], {}, 276, os⟩ (topStub pw) = some ⟨H1 w.params, #[], {}, 2484, os⟩ := by
  obtain ⟨n, hn, hd⟩ := seg13 w os
  have k := piece_nil (env := envE) (fin1 w os)
  have k := piece_app (segRun_of (seg21 w os)) k
  have k := piece_app (segRun_of (seg20 w os)) k
  have k := piece_app (segRun_of (seg19 w os)) k
  have k := piece_app (segRun_of (seg18 w os)) k
  have k := piece_app (segRun_of (seg17 w os)) k
  have k := piece_app (segRun_of (seg16 w os)) k
  have k := piece_app (segRun_of (seg15 w os)) k
  have k := piece_app (segRun_of (seg14 w os)) k
  have k := piece_app (segRun_of (hd)) k
  have k := piece_app (segRun_of (seg12 w os)) k
  have k := piece_app (segRun_of (seg11 w os)) k
  have k := piece_app (segRun_of (seg10 w os)) k
  have k := piece_app (segRun_of (seg9 w os)) k
  have k := piece_app (segRun_of (seg8 w os)) k
  have k := piece_app (segRun_of (seg7 w os)) k
  have k := piece_app (segRun_of (seg6 w os)) k
  have k := piece_app (segRun_of (seg5 w os)) k
  have k := piece_app (segRun_of (seg4 w os)) k
  have k := piece_app (segRun_of (seg3 w os)) k
  have k := piece_app (segRun_of (seg2 w os)) k
  have k := piece_app (segRun_of (seg1 w os)) k
  rw [← body1] at k
  have k := go_top (pre1 w os) (piece_block (block1 w os) k)
  have m := fun j => topRun_mono j _ _ _ _ k
  obtain ⟨j, hj⟩ := sum1 n hn
  have m := m j
  rw [hj] at m
  have e0 : (⟨H0 w.params, #[], {}, 276, os⟩ : Shared) = (S0 w.params os).abs := by kernel_rfl
  have e1 : (S21 w.params os).abs = ⟨H1 w.params, #[], {}, 2484, os⟩ := by kernel_rfl
  rw [e0, ← e1]
  exact m
theorem look1 (w : World) (os : OsState) : (staticsOk (importedModules pw.main.body) (H0 w.params) (H1 w.params) && namesBound pw (H1 w.params) && gensDone ⟨H1 w.params, #[], {}, 2484, os⟩ && laidKept (H0 w.params) (H1 w.params)) = true := by kernel_rfl
noncomputable abbrev SS (w : World) (os : OsState) : Shared := ⟨H1 w.params, #[], {}, 2484, os⟩
theorem lk1 (w : World) (os : OsState) : seen ((recsOf q01).map (·.name)) (ownsOf q01) [] { SS w os with gens := #[] } = expectedOf q01 := by kernel_rfl
theorem lk2 (w : World) (os : OsState) : (SS w os).heap.bltView = bltViewBooted := by kernel_rfl
theorem lk3a (w : World) (os : OsState) : (SS w os).heap.keysOk (looseW q01 loose01) ((recsOf q01).map (·.name)) ((litsOf q01).map (·.1)) ((clssOf q01 (looseW q01 loose01)).map (·.name)) = true := by kernel_rfl
theorem lk3b (w : World) (os : OsState) : (SS w os).heap.accountedOkI (importedModules pw.main.body) = true := by kernel_rfl
theorem lk3c (w : World) (os : OsState) : (SS w os).heap.isNs mainGlobals = true := by kernel_rfl
theorem lk3d (w : World) (os : OsState) : (SS w os).heap.isNs builtinsNs = true := by kernel_rfl
/-- the keys rise -/
noncomputable def riseI : Int → List (PyData × PyData) → Bool
  | _, [] => true
  | j, (.int k, _) :: D => decide (j < k) && riseI k D
  | _, _ => false
theorem rise_no : ∀ (D : List (PyData × PyData)) (i j : Int), i ≤ j → riseI j D = true → hasIntKey i D = false
  | [], _, _, _, _ => rfl
  | (.int k, d) :: D, i, j, hij, h => by
    unfold riseI at h
    rw [Bool.and_eq_true, decide_eq_true_eq] at h
    unfold hasIntKey
    have hk : (k == i) = false := by
      rw [beq_eq_false_iff_ne]; omega
    rw [hk, Bool.false_or]
    exact rise_no D i k (by omega) h.2
theorem rise_apart : ∀ (D : List (PyData × PyData)) (j : Int), riseI j D = true → keysApartInt D = true
  | [], _, _ => rfl
  | (.int k, d) :: D, j, h => by
    unfold riseI at h
    rw [Bool.and_eq_true] at h
    unfold keysApartInt
    rw [rise_no D k k (Int.le_refl _) h.2, rise_apart D k h.2]
    rfl
theorem and_t {a b : Bool} (x : a = true) (y : b = true) : (a && b) = true := by rw [x, y]; rfl
theorem or_t {a b : Bool} (y : b = true) : (a || b) = true := by rw [y]; cases a <;> rfl
noncomputable abbrev pdat (p : Int × PySem.Str) : PyData × PyData := (PyData.int p.1, PyData.str p.2)
theorem ents3_ok : ∀ (ps : List (Int × PySem.Str)) (t : Nat) (es : List DictEntry) (D : List (PyData × PyData)), (ps.all fun p => p.1 == hashInt p.1) = true → entriesAreInt es D = true → entriesAreInt (entsAt3 t ps ++ es) (ps.map pdat ++ D) = true
  | [], _, _, _, _, h => h
  | (i, x) :: ps, t, es, D, hh, h => by
    rw [List.all_cons, Bool.and_eq_true] at hh
    exact and_t (and_t (and_t (beq_self_eq_true i) hh.1) (beq_self_eq_true x)) (ents3_ok ps (t + 3) es D hh.2 h)
theorem ents2_ok : ∀ (ps : List (Int × PySem.Str)) (t : Nat), (ps.all fun p => p.1 == hashInt p.1) = true → entriesAreInt (entsAt2 t ps) (ps.map pdat) = true
  | [], _, _ => rfl
  | (i, x) :: ps, t, hh => by
    rw [List.all_cons, Bool.and_eq_true] at hh
    exact and_t (and_t (and_t (beq_self_eq_true i) hh.1) (beq_self_eq_true x)) (ents2_ok ps (t + 2) hh.2)
noncomputable def b3D : List (PyData × PyData) := b3pairs.map pdat
theorem b3_apart : keysApartInt b3D = true := rise_apart b3D 0 (by kernel_rfl)
theorem b3_tab : tabIntOf q01 (S "b3_exceptions") = some b3D := by kernel_rfl
theorem b3_hash : (b3pairs.all fun p => p.1 == hashInt p.1) = true := by kernel_rfl
theorem b3_ents : entriesAreInt (entsAt3 469 (b3pairs.take 646) ++ entsAt2 2407 (b3pairs.drop 646)) b3D = true := by
  have h := b3_hash
  rw [List.all_eq_true] at h
  have e : b3D = (b3pairs.take 646).map pdat ++ (b3pairs.drop 646).map pdat := by
    rw [← List.map_append, List.take_append_drop]; rfl
  rw [e]
  exact ents3_ok _ _ _ _ (List.all_eq_true.mpr fun p hp => h p (List.mem_of_mem_take hp)) (ents2_ok _ _ (List.all_eq_true.mpr fun p hp => h p (List.mem_of_mem_drop hp)))
theorem b3_name (w : World) (os : OsState) : (SS w os).heap.nsMap mainGlobals (S "b3_exceptions") = some (.ref 99) := by kernel_rfl
theorem b3_obj (w : World) (os : OsState) : (SS w os).heap.get? 99 = some (dO (entsAt3 469 (b3pairs.take 646) ++ entsAt2 2407 (b3pairs.drop 646)).toArray 650) := by kernel_rfl
theorem b3_tabok (w : World) (os : OsState) : (SS w os).heap.tabIntOk (S "b3_exceptions") b3D = true := by
  unfold Heap.tabIntOk
  rw [b3_name w os]
  dsimp only
  rw [b3_obj w os]
  exact and_t (and_t (and_t rfl b3_ents) b3_apart) (by decide)
theorem b3_nm : valNames q01 = [S "_twin_re_1", S "_twin_re_2", S "CRLF", S "b1_set", S "b3_exceptions"] := by kernel_rfl
theorem lk3e (w : World) (os : OsState) : tablesOk q01 (SS w os).heap = true := by
  unfold tablesOk
  rw [b3_nm]
  refine and_t (by kernel_rfl) (and_t (by kernel_rfl) (and_t (by kernel_rfl) (and_t (by kernel_rfl) (and_t ?_ rfl))))
  dsimp only
  rw [b3_tab]
  exact and_t (by kernel_rfl) (b3_tabok w os)
theorem lk3f (w : World) (os : OsState) : Xt01 (SS w os) = true := by kernel_rfl
theorem lk4a (w : World) (os : OsState) : ((recsOf q01).all fun d => (SS w os).heap.tab0Ok d.name) = true := by kernel_rfl
theorem lk4b (w : World) (os : OsState) : (SS w os).heap.bmainOk = true := by kernel_rfl
theorem lk4c (w : World) (os : OsState) : valsOk q01 (SS w os).heap = true := by kernel_rfl
theorem lk4d (w : World) (os : OsState) : (SS w os).heap.noSeerOk = true := by kernel_rfl
theorem lk5 (w : World) (os : OsState) : pinSeenD q01 (drecsOf q01) (SS w os) = pinGoodD (drecsOf q01) := by kernel_rfl
theorem lk6 (w : World) (os : OsState) : plainSeenE q01 (looseW q01 loose01) (SS w os) = plainGoodE q01 (looseW q01 loose01) := by kernel_rfl
theorem lk7 (w : World) (os : OsState) : plainSeenD q01 loose01 (SS w os) = plainGoodD q01 loose01 := by kernel_rfl
theorem lk8 (w : World) (os : OsState) : wideSeen q01 (SS w os) = wideGood q01 := by kernel_rfl
theorem lk9 (w : World) (os : OsState) : clsSeenW q01 loose01 (SS w os) = clsGoodW q01 loose01 := by kernel_rfl
theorem tup9 {α β γ δ ε ζ η θ ι : Type} {a a' : α} {b b' : β} {c c' : γ} {d d' : δ} {e e' : ε} {f f' : ζ} {g g' : η} {h h' : θ} {i i' : ι} (h1 : a = a') (h2 : b = b') (h3 : c = c') (h4 : d = d') (h5 : e = e') (h6 : f = f') (h7 : g = g') (h8 : h = h') (h9 : i = i') :
    (a, b, c, d, e, f, g, h, i) = (a', b', c', d', e', f', g', h', i') := by subst h1 h2 h3 h4 h5 h6 h7 h8 h9; rfl
theorem lk4 (w : World) (os : OsState) : tabsOk q01 (SS w os) = true := and_t (and_t (and_t (lk4a w os) (lk4b w os)) (lk4c w os)) (or_t (lk4d w os))
theorem look2 (w : World) (os : OsState) : openSeen q01 loose01 (importedModules pw.main.body) Xt01 true ⟨H1 w.params, #[], {}, 2484, os⟩ = openGood q01 loose01 :=
  tup9 (lk1 w os) (lk2 w os) (and_t (and_t (and_t (and_t (and_t (and_t (lk3a w os) (lk3b w os)) (lk3c w os)) (lk3d w os)) (lk3e w os)) (lk3f w os)) rfl) (lk4 w os) (lk5 w os) (lk6 w os) (lk7 w os) (lk8 w os) (lk9 w os)
theorem look3 (w : World) (os : OsState) : Hook.obs HK ⟨H1 w.params, #[], {}, 2484, os⟩ = Hook.val HK w := by kernel_rfl
theorem looks1 (w : World) : (fun os => ((staticsOk (importedModules pw.main.body) (H0 w.params) (H1 w.params) && namesBound pw (H1 w.params) && gensDone ⟨H1 w.params, #[], {}, 2484, os⟩ && laidKept (H0 w.params) (H1 w.params)),
        openSeen q01 loose01 (importedModules pw.main.body) Xt01 true ⟨H1 w.params, #[], {}, 2484, os⟩, Hook.obs HK ⟨H1 w.params, #[], {}, 2484, os⟩)) = fun _ => (true, openGood q01 loose01, Hook.val HK w) := by
  funext os
  rw [look1 w os, look2 w os, look3 w os]
theorem head : LeftO pw q01 loose01 Xt01 (Hook.obs HK) (Hook.val HK) 30000 :=
  LeftO.of_pieces open2 size1 run1 (by decide) looks1
end Mine

end
section
open PySem PySem.W PyProof.Rows
set_option Elab.async false
set_option maxRecDepth 100000
set_option linter.unusedVariables false
namespace Mine


noncomputable def c1 : Array Nat := #[14, 4, 0, 1, 1, 6, 1, 16, 46, 1]
noncomputable def c2 : Array Nat := #[14, 9, 4, 1, 2, 16, 10, 16, 13, 0, 7, 7, 16, 13, 16, 10, 15, 18, 5, 16, 10, 15, 13, 11, 16, 13, 5, 5, 0, 16, 10, 1, 15, 2, 0, 1]

theorem runFor_stop {m : Sre.M} (h : m.outcome.isSome = true) : ∀ n, Sre.M.runFor n m = m
  | 0 => rfl
  | n + 1 => by unfold Sre.M.runFor; rw [if_pos h]
theorem runFor_succ {m : Sre.M} (h : m.outcome = none) (n : Nat) : Sre.M.runFor (n + 1) m = Sre.M.runFor n m.step := by
  conv => lhs; unfold Sre.M.runFor
  rw [h]; rfl
theorem runFor_add : ∀ (a b : Nat) (m : Sre.M), Sre.M.runFor (a + b) m = Sre.M.runFor b (Sre.M.runFor a m)
  | 0, b, m => by rw [Nat.zero_add]; rfl
  | a + 1, b, m => by
    rw [show a + 1 + b = (a + b) + 1 by omega]
    cases h : m.outcome with
    | some o =>
      have hs : m.outcome.isSome = true := by rw [h]; rfl
      rw [runFor_stop hs, runFor_stop hs, runFor_stop hs]
    | none => rw [runFor_succ h, runFor_succ h, runFor_add a b]

/-- m comes to m' in at most b steps -/
noncomputable def Comes (b : Nat) (m m' : Sre.M) : Prop := ∃ n, n ≤ b ∧ Sre.M.runFor n m = m'
theorem Comes.trans {a b : Nat} {x y z : Sre.M} (h : Comes a x y) (k : Comes b y z) : Comes (a + b) x z := by
  obtain ⟨n, hn, e⟩ := h
  obtain ⟨m, hm, e'⟩ := k
  exact ⟨n + m, by omega, by rw [runFor_add, e, e']⟩
theorem Comes.le {a b : Nat} {x y : Sre.M} (h : Comes a x y) (l : a ≤ b) : Comes b x y := by
  obtain ⟨n, hn, e⟩ := h
  exact ⟨n, Nat.le_trans hn l, e⟩
theorem Comes.one {x y : Sre.M} (h : x.outcome = none) (e : x.step = y) : Comes 1 x y := ⟨1, Nat.le_refl _, by rw [runFor_succ h, e]; rfl⟩

noncomputable abbrev fr0 (pc s : Nat) (o : Bool) : Sre.Frame := { wait := .nextStart, pc := pc, pos := s, outermost := o }
/-- pattern 1 about to try at s -/
noncomputable def m1 (text : Array Nat) (lim s : Nat) (o : Bool) (h : Nat) (seen : Sre.Seen) (pc pos : Nat) (ans : Option Bool) (frames : List Sre.Frame) (w : Nat) (out : Option Sre.Outcome) : Sre.M :=
  { code := c1, text, lim, start := s, lastStart := lim, wholeText := false, mustAdvance := false, pc, pos, handed := h, outermost := o, marks := #[], lastmark := -1, lastindex := -1, loops := #[], inner := none, frames, weight := w, answer := ans, seen, outcome := out }

theorem s1_at (text : Array Nat) (lim s : Nat) (o : Bool) (seen : Sre.Seen) :
    (m1 text lim s o s seen 5 s none [fr0 5 s o] 1 none).step =
      (if (s == 0 || text.getD (s - 1) 0 == 10) = true then m1 text lim s o s ((seen.add 6).add 44) 7 s none [fr0 5 s o] 1 none
        else m1 text lim s o s ((seen.add 6).add 44) 5 s (some false) [fr0 5 s o] 1 none) := by kernel_rfl
theorem s1_lit (text : Array Nat) (lim s : Nat) (o : Bool) (seen : Sre.Seen) :
    (m1 text lim s o s seen 7 s none [fr0 5 s o] 1 none).step =
      (if s ≥ lim then m1 text lim s o s (seen.add 16) 7 s (some false) [fr0 5 s o] 1 none
        else match (text.getD s 0 == 46) with
          | true => m1 text lim s o s (seen.add 16) 9 (s + 1) none [fr0 5 s o] 1 none
          | false => m1 text lim s o s (seen.add 16) 7 s (some false) [fr0 5 s o] 1 none) := by kernel_rfl
theorem s1_back (text : Array Nat) (lim s pc : Nat) (o : Bool) (seen : Sre.Seen) :
    (m1 text lim s o s seen pc s (some false) [fr0 5 s o] 1 none).step =
      (if s < lim then m1 text lim (s + 1) false (s + 1) seen 5 (s + 1) none [fr0 5 (s + 1) false] 1 none
        else m1 text lim s o s seen 5 s (some false) [] 0 none) := by kernel_rfl
theorem s1_fail (text : Array Nat) (lim s : Nat) (o : Bool) (seen : Sre.Seen) :
    (m1 text lim s o s seen 5 s (some false) [] 0 none).step = m1 text lim s o s seen 5 s (some false) [] 0 (some .failed) := by kernel_rfl
theorem s1_ok (text : Array Nat) (lim s : Nat) : ∀ (o : Bool) (seen : Sre.Seen),
    (m1 text lim s o s seen 9 (s + 1) none [fr0 5 s o] 1 none).step = m1 text lim s o (s + 1) (seen.add 1) 9 (s + 1) (some true) [fr0 5 s o] 1 none
  | true, seen => by kernel_rfl
  | false, seen => by kernel_rfl
theorem s1_yes (text : Array Nat) (lim s : Nat) (o : Bool) (seen : Sre.Seen) :
    (m1 text lim s o (s + 1) seen 9 (s + 1) (some true) [fr0 5 s o] 1 none).step = m1 text lim s o (s + 1) seen 5 s (some true) [] 0 none := by kernel_rfl
theorem s1_end (text : Array Nat) (lim s : Nat) (o : Bool) (seen : Sre.Seen) :
    (m1 text lim s o (s + 1) seen 5 s (some true) [] 0 none).step = m1 text lim s o (s + 1) seen 5 s (some true) [] 0 (some .matched) := by kernel_rfl

noncomputable def hit1 (text : Array Nat) (s : Nat) : Bool := (s == 0 || text.getD (s - 1) 0 == 10) && text.getD s 0 == 46
noncomputable abbrev at1 (text : Array Nat) (lim s : Nat) (o : Bool) (seen : Sre.Seen) : Sre.M := m1 text lim s o s seen 5 s none [fr0 5 s o] 1 none
noncomputable abbrev won1 (text : Array Nat) (lim s : Nat) (o : Bool) (seen : Sre.Seen) : Sre.M := m1 text lim s o (s + 1) seen 5 s (some true) [] 0 (some .matched)
noncomputable abbrev lost1 (text : Array Nat) (lim s : Nat) (o : Bool) (seen : Sre.Seen) : Sre.M := m1 text lim s o s seen 5 s (some false) [] 0 (some .failed)

theorem try1 (text : Array Nat) (lim s : Nat) (o : Bool) (seen : Sre.Seen) :
    (s < lim ∧ hit1 text s = true ∧ ∃ seen', Comes 5 (at1 text lim s o seen) (won1 text lim s o seen')) ∨
    (s < lim ∧ hit1 text s = false ∧ ∃ seen', Comes 3 (at1 text lim s o seen) (at1 text lim (s + 1) false seen')) ∨
    (¬ s < lim ∧ ∃ seen', Comes 4 (at1 text lim s o seen) (lost1 text lim s o seen')) := by
  have A := Comes.one (x := at1 text lim s o seen) rfl (s1_at text lim s o seen)
  by_cases hl : s < lim
  · by_cases ha : (s == 0 || text.getD (s - 1) 0 == 10) = true
    · rw [if_pos ha] at A
      have B := Comes.one (x := m1 text lim s o s ((seen.add 6).add 44) 7 s none [fr0 5 s o] 1 none) rfl (s1_lit text lim s o ((seen.add 6).add 44))
      rw [if_neg (by omega)] at B
      cases hc : (text.getD s 0 == 46) with
      | true =>
        rw [hc] at B
        refine .inl ⟨hl, by unfold hit1; rw [ha, hc]; rfl, _, (((A.trans B).trans (Comes.one rfl (s1_ok text lim s o _))).trans (Comes.one rfl (s1_yes text lim s o _))).trans (Comes.one rfl (s1_end text lim s o _))⟩
      | false =>
        rw [hc] at B
        have C := Comes.one (x := m1 text lim s o s (((seen.add 6).add 44).add 16) 7 s (some false) [fr0 5 s o] 1 none) rfl (s1_back text lim s 7 o _)
        rw [if_pos hl] at C
        exact .inr (.inl ⟨hl, by unfold hit1; rw [hc, Bool.and_false], _, (A.trans B).trans C⟩)
    · rw [if_neg ha] at A
      have C := Comes.one (x := m1 text lim s o s ((seen.add 6).add 44) 5 s (some false) [fr0 5 s o] 1 none) rfl (s1_back text lim s 5 o _)
      rw [if_pos hl] at C
      exact .inr (.inl ⟨hl, by unfold hit1; rw [Bool.not_eq_true] at ha; rw [ha, Bool.false_and], _, (A.trans C).le (by omega)⟩)
  · refine .inr (.inr ⟨hl, ?_⟩)
    by_cases ha : (s == 0 || text.getD (s - 1) 0 == 10) = true
    · rw [if_pos ha] at A
      have B := Comes.one (x := m1 text lim s o s ((seen.add 6).add 44) 7 s none [fr0 5 s o] 1 none) rfl (s1_lit text lim s o ((seen.add 6).add 44))
      rw [if_pos (by omega)] at B
      have C := Comes.one (x := m1 text lim s o s (((seen.add 6).add 44).add 16) 7 s (some false) [fr0 5 s o] 1 none) rfl (s1_back text lim s 7 o _)
      rw [if_neg hl] at C
      exact ⟨_, ((A.trans B).trans C).trans (Comes.one rfl (s1_fail text lim s o _))⟩
    · rw [if_neg ha] at A
      have C := Comes.one (x := m1 text lim s o s ((seen.add 6).add 44) 5 s (some false) [fr0 5 s o] 1 none) rfl (s1_back text lim s 5 o _)
      rw [if_neg hl] at C
      exact ⟨_, ((A.trans C).trans (Comes.one rfl (s1_fail text lim s o _))).le (by omega)⟩

theorem search1 (text : Array Nat) (lim : Nat) : ∀ (k s : Nat) (o : Bool) (seen : Sre.Seen), s + k = lim →
    (∃ f o' seen', s ≤ f ∧ f < lim ∧ hit1 text f = true ∧ (∀ j, s ≤ j → j < f → hit1 text j = false) ∧ Comes (3 * k + 5) (at1 text lim s o seen) (won1 text lim f o' seen')) ∨
    ((∀ j, s ≤ j → j < lim → hit1 text j = false) ∧ ∃ o' seen', Comes (3 * k + 5) (at1 text lim s o seen) (lost1 text lim lim o' seen'))
  | 0, s, o, seen, e => by
    obtain rfl : s = lim := by omega
    rcases try1 text s s o seen with ⟨h, _⟩ | ⟨h, _⟩ | ⟨_, seen', C⟩
    · omega
    · omega
    · exact .inr ⟨fun j h1 h2 => by omega, o, seen', C.le (by omega)⟩
  | k + 1, s, o, seen, e => by
    rcases try1 text lim s o seen with ⟨h, hh, seen', C⟩ | ⟨h, hh, seen', C⟩ | ⟨h, _⟩
    · exact .inl ⟨s, o, seen', Nat.le_refl _, h, hh, fun j h1 h2 => by omega, C.le (by omega)⟩
    · rcases search1 text lim k (s + 1) false seen' (by omega) with ⟨f, o', seen2, h1, h2, h3, h4, C2⟩ | ⟨h4, o', seen2, C2⟩
      · refine .inl ⟨f, o', seen2, by omega, h2, h3, fun j j1 j2 => ?_, (C.trans C2).le (by omega)⟩
        by_cases ej : j = s
        · rw [ej]; exact hh
        · exact h4 j (by omega) j2
      · refine .inr ⟨fun j j1 j2 => ?_, o', seen2, (C.trans C2).le (by omega)⟩
        by_cases ej : j = s
        · rw [ej]; exact hh
        · exact h4 j (by omega) j2
    · omega
theorem for1 (text : Array Nat) (lim s : Nat) (h : s < lim) : Sre.forSearch c1 text 0 s lim false = at1 text lim s true (({} : Sre.Seen).add 14) := by
  unfold Sre.forSearch
  have e : (decide (s > lim) || decide (lim - s < (Sre.header c1).1)) = false := by
    have : (Sre.header c1).1 = 1 := by decide +kernel
    rw [this]
    simp only [Bool.or_eq_false_iff, decide_eq_false_iff_not]
    omega
  simp only [e]
  kernel_rfl

theorem for1_out (text : Array Nat) (s : Nat) : ∃ m, Comes 1 (Sre.forSearch c1 text 0 s s false) m ∧ m.outcome = some .failed := by
  have e : Sre.forSearch c1 text 0 s s false = { at1 text s s true (({} : Sre.Seen).add 14) with lastStart := 0, answer := some false, frames := [], weight := 0 } := by
    unfold Sre.forSearch
    have : (decide (s > s) || decide (s - s < (Sre.header c1).1)) = true := by
      rw [show (Sre.header c1).1 = 1 from by decide +kernel, Nat.sub_self]; simp
    simp only [this]
    kernel_rfl
  rw [e]
  exact ⟨_, Comes.one rfl rfl, by kernel_rfl⟩

/-- pattern 2 -/
noncomputable def m2 (text : Array Nat) (lim s : Nat) (o : Bool) (h : Nat) (seen : Sre.Seen) (pc pos : Nat) (ans : Option Bool) (frames : List Sre.Frame) (w : Nat) (out : Option Sre.Outcome) : Sre.M :=
  { code := c2, text, lim, start := s, lastStart := lim, wholeText := false, mustAdvance := false, pc, pos, handed := h, outermost := o, marks := #[], lastmark := -1, lastindex := -1, loops := #[], inner := none, frames, weight := w, answer := ans, seen, outcome := out }
noncomputable abbrev kp0 : Sre.Kept := { lastmark := -1, lastindex := -1, whole := false, marks := #[] }
noncomputable abbrev fb (pc s : Nat) (o : Bool) : Sre.Frame := { wait := .nextBranch, pc := pc, pos := s, outermost := o, kept := kp0 }
noncomputable abbrev fl (s : Nat) (o : Bool) : Sre.Frame := { wait := .lookNot, pc := 26, pos := s, outermost := o, kept := kp0 }
noncomputable abbrev at2 (text : Array Nat) (lim s : Nat) (o : Bool) (seen : Sre.Seen) : Sre.M := m2 text lim s o s seen 10 s none [fr0 10 s o] 1 none
noncomputable abbrev won2 (text : Array Nat) (lim s e : Nat) (o : Bool) (seen : Sre.Seen) : Sre.M := m2 text lim s o e seen 10 s (some true) [] 0 (some .matched)

theorem s2_br (text : Array Nat) (lim s : Nat) (o : Bool) (seen : Sre.Seen) :
    (at2 text lim s o seen).step = m2 text lim s o s (seen.add 7) 12 s none [fb 11 s o, fr0 10 s o] 2 none := by kernel_rfl
theorem s2_cr (text : Array Nat) (lim s : Nat) (o : Bool) (seen : Sre.Seen) (hl : s < lim) :
    (m2 text lim s o s seen 12 s none [fb 11 s o, fr0 10 s o] 2 none).step = (match (text.getD s 0 == 13) with
      | true => m2 text lim s o s (seen.add 16) 14 (s + 1) none [fb 11 s o, fr0 10 s o] 2 none
      | false => m2 text lim s o s (seen.add 16) 12 s (some false) [fb 11 s o, fr0 10 s o] 2 none) := by
  have e : (m2 text lim s o s seen 12 s none [fb 11 s o, fr0 10 s o] 2 none).step = (if s ≥ lim then m2 text lim s o s (seen.add 16) 12 s (some false) [fb 11 s o, fr0 10 s o] 2 none else (match (text.getD s 0 == 13) with
      | true => m2 text lim s o s (seen.add 16) 14 (s + 1) none [fb 11 s o, fr0 10 s o] 2 none
      | false => m2 text lim s o s (seen.add 16) 12 s (some false) [fb 11 s o, fr0 10 s o] 2 none)) := by kernel_rfl
  rw [e, if_neg (by omega)]
theorem s2_lf (text : Array Nat) (lim s : Nat) (o : Bool) (seen : Sre.Seen) :
    (m2 text lim s o s seen 14 (s + 1) none [fb 11 s o, fr0 10 s o] 2 none).step = (if s + 1 ≥ lim then m2 text lim s o s (seen.add 16) 14 (s + 1) (some false) [fb 11 s o, fr0 10 s o] 2 none else (match (text.getD (s + 1) 0 == 10) with
      | true => m2 text lim s o s (seen.add 16) 16 (s + 2) none [fb 11 s o, fr0 10 s o] 2 none
      | false => m2 text lim s o s (seen.add 16) 14 (s + 1) (some false) [fb 11 s o, fr0 10 s o] 2 none)) := by kernel_rfl
theorem s2_jump (text : Array Nat) (lim s e b : Nat) (o : Bool) (seen : Sre.Seen) :
    (m2 text lim s o s seen 16 e none [fb b s o, fr0 10 s o] 2 none).step = m2 text lim s o s (seen.add 15) 35 e none [fb b s o, fr0 10 s o] 2 none := by kernel_rfl
theorem s2_jump2 (text : Array Nat) (lim s e b : Nat) (o : Bool) (seen : Sre.Seen) :
    (m2 text lim s o s seen 21 e none [fb b s o, fr0 10 s o] 2 none).step = m2 text lim s o s (seen.add 15) 35 e none [fb b s o, fr0 10 s o] 2 none := by kernel_rfl
theorem s2_jump3 (text : Array Nat) (lim s e b h : Nat) (o : Bool) (seen : Sre.Seen) :
    (m2 text lim s o h seen 32 e none [fb b s o, fr0 10 s o] 2 none).step = m2 text lim s o h (seen.add 15) 35 e none [fb b s o, fr0 10 s o] 2 none := by kernel_rfl
theorem s2_ok (text : Array Nat) (lim s e b h : Nat) : ∀ (o : Bool) (seen : Sre.Seen),
    (m2 text lim s o h seen 35 e none [fb b s o, fr0 10 s o] 2 none).step = m2 text lim s o e (seen.add 1) 35 e (some true) [fb b s o, fr0 10 s o] 2 none
  | true, seen => by kernel_rfl
  | false, seen => by kernel_rfl
theorem s2_yes (text : Array Nat) (lim s e b : Nat) (o : Bool) (seen : Sre.Seen) :
    (m2 text lim s o e seen 35 e (some true) [fb b s o, fr0 10 s o] 2 none).step = m2 text lim s o e seen b s (some true) [fr0 10 s o] 1 none := by kernel_rfl
theorem s2_yes2 (text : Array Nat) (lim s e b : Nat) (o : Bool) (seen : Sre.Seen) :
    (m2 text lim s o e seen b s (some true) [fr0 10 s o] 1 none).step = m2 text lim s o e seen 10 s (some true) [] 0 none := by kernel_rfl
theorem s2_end (text : Array Nat) (lim s e : Nat) (o : Bool) (seen : Sre.Seen) :
    (m2 text lim s o e seen 10 s (some true) [] 0 none).step = won2 text lim s e o seen := by kernel_rfl
theorem win2 (text : Array Nat) (lim s e b h : Nat) (o : Bool) (seen : Sre.Seen) :
    ∃ seen', Comes 4 (m2 text lim s o h seen 35 e none [fb b s o, fr0 10 s o] 2 none) (won2 text lim s e o seen') :=
  ⟨_, (((Comes.one rfl (s2_ok text lim s e b h o seen)).trans (Comes.one rfl (s2_yes text lim s e b o _))).trans (Comes.one rfl (s2_yes2 text lim s e b o _))).trans (Comes.one rfl (s2_end text lim s e o _))⟩
theorem s2_back (text : Array Nat) (lim s pc pos : Nat) (o : Bool) (seen : Sre.Seen) :
    (m2 text lim s o s seen pc pos (some false) [fb 11 s o, fr0 10 s o] 2 none).step = m2 text lim s o s seen 19 s none [fb 18 s o, fr0 10 s o] 2 none := by kernel_rfl
theorem s2_lf2 (text : Array Nat) (lim s : Nat) (o : Bool) (seen : Sre.Seen) (hl : s < lim) :
    (m2 text lim s o s seen 19 s none [fb 18 s o, fr0 10 s o] 2 none).step = (match (text.getD s 0 == 10) with
      | true => m2 text lim s o s (seen.add 16) 21 (s + 1) none [fb 18 s o, fr0 10 s o] 2 none
      | false => m2 text lim s o s (seen.add 16) 19 s (some false) [fb 18 s o, fr0 10 s o] 2 none) := by
  have e : (m2 text lim s o s seen 19 s none [fb 18 s o, fr0 10 s o] 2 none).step = (if s ≥ lim then m2 text lim s o s (seen.add 16) 19 s (some false) [fb 18 s o, fr0 10 s o] 2 none else (match (text.getD s 0 == 10) with
      | true => m2 text lim s o s (seen.add 16) 21 (s + 1) none [fb 18 s o, fr0 10 s o] 2 none
      | false => m2 text lim s o s (seen.add 16) 19 s (some false) [fb 18 s o, fr0 10 s o] 2 none)) := by kernel_rfl
  rw [e, if_neg (by omega)]
theorem s2_back2 (text : Array Nat) (lim s : Nat) (o : Bool) (seen : Sre.Seen) :
    (m2 text lim s o s seen 19 s (some false) [fb 18 s o, fr0 10 s o] 2 none).step = m2 text lim s o s seen 24 s none [fb 23 s o, fr0 10 s o] 2 none := by kernel_rfl
theorem s2_cr3 (text : Array Nat) (lim s : Nat) (o : Bool) (seen : Sre.Seen) (hl : s < lim) (hc : (text.getD s 0 == 13) = true) :
    (m2 text lim s o s seen 24 s none [fb 23 s o, fr0 10 s o] 2 none).step = m2 text lim s o s (seen.add 16) 26 (s + 1) none [fb 23 s o, fr0 10 s o] 2 none := by
  have e : (m2 text lim s o s seen 24 s none [fb 23 s o, fr0 10 s o] 2 none).step = (if s ≥ lim then m2 text lim s o s (seen.add 16) 24 s (some false) [fb 23 s o, fr0 10 s o] 2 none else (match (text.getD s 0 == 13) with
      | true => m2 text lim s o s (seen.add 16) 26 (s + 1) none [fb 23 s o, fr0 10 s o] 2 none
      | false => m2 text lim s o s (seen.add 16) 24 s (some false) [fb 23 s o, fr0 10 s o] 2 none)) := by kernel_rfl
  rw [e, if_neg (by omega), hc]
theorem s2_look (text : Array Nat) (lim s : Nat) (o : Bool) (seen : Sre.Seen) :
    (m2 text lim s o s seen 26 (s + 1) none [fb 23 s o, fr0 10 s o] 2 none).step = m2 text lim s false (s + 1) (seen.add 5) 29 (s + 1) none [fl (s + 1) o, fb 23 s o, fr0 10 s o] 3 none := by kernel_rfl
theorem s2_lf3 (text : Array Nat) (lim s : Nat) (o : Bool) (seen : Sre.Seen) (hc : ¬ (s + 1 < lim ∧ text.getD (s + 1) 0 = 10)) :
    (m2 text lim s false (s + 1) seen 29 (s + 1) none [fl (s + 1) o, fb 23 s o, fr0 10 s o] 3 none).step = m2 text lim s false (s + 1) (seen.add 16) 29 (s + 1) (some false) [fl (s + 1) o, fb 23 s o, fr0 10 s o] 3 none := by
  have e : (m2 text lim s false (s + 1) seen 29 (s + 1) none [fl (s + 1) o, fb 23 s o, fr0 10 s o] 3 none).step = (if s + 1 ≥ lim then m2 text lim s false (s + 1) (seen.add 16) 29 (s + 1) (some false) [fl (s + 1) o, fb 23 s o, fr0 10 s o] 3 none else (match (text.getD (s + 1) 0 == 10) with
      | true => m2 text lim s false (s + 1) (seen.add 16) 31 (s + 2) none [fl (s + 1) o, fb 23 s o, fr0 10 s o] 3 none
      | false => m2 text lim s false (s + 1) (seen.add 16) 29 (s + 1) (some false) [fl (s + 1) o, fb 23 s o, fr0 10 s o] 3 none)) := by kernel_rfl
  rw [e]
  by_cases h : s + 1 ≥ lim
  · rw [if_pos h]
  · rw [if_neg h, show (text.getD (s + 1) 0 == 10) = false from by simp only [beq_eq_false_iff_ne]; intro q; exact hc ⟨by omega, q⟩]
theorem s2_back3 (text : Array Nat) (lim s : Nat) (o : Bool) (seen : Sre.Seen) :
    (m2 text lim s false (s + 1) seen 29 (s + 1) (some false) [fl (s + 1) o, fb 23 s o, fr0 10 s o] 3 none).step = m2 text lim s o (s + 1) seen 32 (s + 1) none [fb 23 s o, fr0 10 s o] 2 none := by kernel_rfl

noncomputable def hit2 (text : Array Nat) (s : Nat) : Bool := text.getD s 0 == 10 || text.getD s 0 == 13
noncomputable def end2 (text : Array Nat) (lim s : Nat) : Nat := if text.getD s 0 = 13 ∧ s + 1 < lim ∧ text.getD (s + 1) 0 = 10 then s + 2 else s + 1

theorem try2 (text : Array Nat) (lim s : Nat) (o : Bool) (seen : Sre.Seen) (hl : s < lim) (hh : hit2 text s = true) :
    ∃ seen', Comes 20 (at2 text lim s o seen) (won2 text lim s (end2 text lim s) o seen') := by
  have A := (Comes.one rfl (s2_br text lim s o seen)).trans (Comes.one rfl (s2_cr text lim s o (seen.add 7) hl))
  cases h13 : (text.getD s 0 == 13) with
  | true =>
    rw [h13] at A
    have e13 : text.getD s 0 = 13 := by simpa using h13
    have B := A.trans (Comes.one rfl (s2_lf text lim s o ((seen.add 7).add 16)))
    by_cases h10 : s + 1 < lim ∧ text.getD (s + 1) 0 = 10
    · rw [if_neg (by omega), show (text.getD (s + 1) 0 == 10) = true from by simpa using h10.2] at B
      obtain ⟨seen', W⟩ := win2 text lim s (s + 2) 11 s o (((((seen.add 7).add 16).add 16)).add 15)
      have := (B.trans (Comes.one rfl (s2_jump text lim s (s + 2) 11 o _))).trans W
      exact ⟨seen', by unfold end2; rw [if_pos ⟨e13, h10⟩]; exact this.le (by omega)⟩
    · have eB : (if s + 1 ≥ lim then m2 text lim s o s (((seen.add 7).add 16).add 16) 14 (s + 1) (some false) [fb 11 s o, fr0 10 s o] 2 none else (match (text.getD (s + 1) 0 == 10) with
      | true => m2 text lim s o s (((seen.add 7).add 16).add 16) 16 (s + 2) none [fb 11 s o, fr0 10 s o] 2 none
      | false => m2 text lim s o s (((seen.add 7).add 16).add 16) 14 (s + 1) (some false) [fb 11 s o, fr0 10 s o] 2 none)) = m2 text lim s o s (((seen.add 7).add 16).add 16) 14 (s + 1) (some false) [fb 11 s o, fr0 10 s o] 2 none := by
        by_cases h : s + 1 ≥ lim
        · rw [if_pos h]
        · rw [if_neg h, show (text.getD (s + 1) 0 == 10) = false from by simp only [beq_eq_false_iff_ne]; intro q; exact h10 ⟨by omega, q⟩]
      rw [eB] at B
      have C := (B.trans (Comes.one rfl (s2_back text lim s 14 (s + 1) o _))).trans (Comes.one rfl (s2_lf2 text lim s o _ hl))
      rw [show (text.getD s 0 == 10) = false from by rw [e13]; rfl] at C
      have D := (((C.trans (Comes.one rfl (s2_back2 text lim s o _))).trans (Comes.one rfl (s2_cr3 text lim s o _ hl h13))).trans (Comes.one rfl (s2_look text lim s o _))).trans (Comes.one rfl (s2_lf3 text lim s o _ h10))
      have F := (D.trans (Comes.one rfl (s2_back3 text lim s o _))).trans (Comes.one rfl (s2_jump3 text lim s (s + 1) 23 (s + 1) o _))
      obtain ⟨seen', W⟩ := win2 text lim s (s + 1) 23 (s + 1) o _
      exact ⟨seen', by unfold end2; rw [if_neg (fun q => h10 q.2)]; exact (F.trans W).le (by omega)⟩
  | false =>
    rw [h13] at A
    have e10 : (text.getD s 0 == 10) = true := by
      unfold hit2 at hh
      rw [h13, Bool.or_false] at hh
      exact hh
    have C := (A.trans (Comes.one rfl (s2_back text lim s 12 s o _))).trans (Comes.one rfl (s2_lf2 text lim s o _ hl))
    rw [e10] at C
    have F := C.trans (Comes.one rfl (s2_jump2 text lim s (s + 1) 18 o _))
    obtain ⟨seen', W⟩ := win2 text lim s (s + 1) 18 s o _
    refine ⟨seen', ?_⟩
    unfold end2
    rw [if_neg (fun q => by rw [q.1] at h13; cases h13)]
    exact (F.trans W).le (by omega)

theorem set2 (c : Nat) (seen : Sre.Seen) : Sre.inSet c2 c c2.size 5 true seen = (match (c == 10) with
    | true => .ok (true, seen.add 16)
    | false => (match (c == 13) with
      | true => .ok (true, (seen.add 16).add 16)
      | false => .ok (false, ((seen.add 16).add 16).add 0))) := by
  have e : Sre.inSet c2 c c2.size 5 true seen = (if (c == 10) = true then .ok (true, seen.add 16) else (if (c == 13) = true then .ok (true, (seen.add 16).add 16) else .ok (false, ((seen.add 16).add 16).add 0))) := by kernel_rfl
  rw [e]
  cases (c == 10) <;> cases (c == 13) <;> rfl
theorem adm2 (m : Sre.M) (text : Array Nat) (lim : Nat) (hc : m.code = c2) (ht : m.text = text) (hm : m.lim = lim) : ∀ (k s : Nat) (seen : Sre.Seen), lim < s + k + 1 →
    (∃ f seen', s ≤ f ∧ f < lim ∧ hit2 text f = true ∧ (∀ j, s ≤ j → j < f → hit2 text j = false) ∧ Sre.M.admitted m (k + 1) s seen = .ok (some f, seen')) ∨
    ((∀ j, s ≤ j → j < lim → hit2 text j = false) ∧ ∃ seen', Sre.M.admitted m (k + 1) s seen = .ok (none, seen')) := by
  intro k
  induction k with
  | zero =>
    intro s seen h
    refine .inr ⟨fun j h1 h2 => by omega, seen, ?_⟩
    unfold Sre.M.admitted
    rw [if_pos (by rw [hm]; omega)]
  | succ k ih =>
    intro s seen h
    unfold Sre.M.admitted
    by_cases hs : s < lim
    · rw [if_neg (by rw [hm]; omega), hc, ht, set2]
      cases h10 : (text.getD s 0 == 10) with
      | true => exact .inl ⟨s, _, Nat.le_refl _, hs, by unfold hit2; rw [h10]; rfl, fun j h1 h2 => by omega, rfl⟩
      | false =>
        cases h13 : (text.getD s 0 == 13) with
        | true => exact .inl ⟨s, _, Nat.le_refl _, hs, by unfold hit2; rw [h13, Bool.or_true], fun j h1 h2 => by omega, rfl⟩
        | false =>
          have hn : hit2 text s = false := by unfold hit2; rw [h10, h13]; rfl
          rcases ih (s + 1) (((seen.add 16).add 16).add 0) (by omega) with ⟨f, seen', a, b, c, d, e⟩ | ⟨d, seen', e⟩
          · refine .inl ⟨f, seen', by omega, b, c, fun j j1 j2 => ?_, e⟩
            by_cases ej : j = s
            · rw [ej]; exact hn
            · exact d j (by omega) j2
          · refine .inr ⟨fun j j1 j2 => ?_, seen', e⟩
            by_cases ej : j = s
            · rw [ej]; exact hn
            · exact d j (by omega) j2
    · refine .inr ⟨fun j h1 h2 => by omega, seen, ?_⟩
      rw [if_pos (by rw [hm]; omega)]

noncomputable abbrev m20 (text : Array Nat) (lim s : Nat) : Sre.M := m2 text lim s true s (({} : Sre.Seen).add 14) 10 s none [] 0 none
theorem for2_eq (text : Array Nat) (lim s : Nat) (h : s < lim) : Sre.forSearch c2 text 0 s lim false = (match Sre.M.admitted (m20 text lim s) (lim + 1 - s) s (({} : Sre.Seen).add 14) with
    | .ok (some f, seen) => at2 text lim f true seen
    | .ok (none, seen) => { m20 text lim s with seen := seen, answer := some false }
    | .error why => { m20 text lim s with outcome := some (.stuck why) }) := by
  unfold Sre.forSearch
  have e : (decide (s > lim) || decide (lim - s < (Sre.header c2).1)) = false := by
    have : (Sre.header c2).1 = 1 := by decide +kernel
    rw [this]
    simp only [Bool.or_eq_false_iff, decide_eq_false_iff_not]
    omega
  simp only [e]
  kernel_rfl
theorem for2_out (text : Array Nat) (s : Nat) : ∃ m, Comes 1 (Sre.forSearch c2 text 0 s s false) m ∧ m.outcome = some .failed := by
  have e : Sre.forSearch c2 text 0 s s false = { m20 text s s with lastStart := 0, answer := some false } := by
    unfold Sre.forSearch
    have : (decide (s > s) || decide (s - s < (Sre.header c2).1)) = true := by
      rw [show (Sre.header c2).1 = 1 from by decide +kernel, Nat.sub_self]; simp
    simp only [this]
    kernel_rfl
  rw [e]
  exact ⟨_, Comes.one rfl rfl, by kernel_rfl⟩

/-- what a search gives: the first hit and its end, or nothing -/
structure Finds (code text : Array Nat) (lim s : Nat) (hit : Nat → Bool) (fin : Nat → Nat) : Prop where
  out : (∃ f m b, s ≤ f ∧ f < lim ∧ hit f = true ∧ (∀ j, s ≤ j → j < f → hit j = false) ∧ b ≤ 3 * lim + 40 ∧ Comes b (Sre.forSearch code text 0 s lim false) m ∧ m.outcome = some .matched ∧ m.start = f ∧ m.handed = fin f) ∨
    ((∀ j, s ≤ j → j < lim → hit j = false) ∧ ∃ m b, b ≤ 3 * lim + 40 ∧ Comes b (Sre.forSearch code text 0 s lim false) m ∧ m.outcome = some .failed)

theorem finds1 (text : Array Nat) (lim s : Nat) (h : s ≤ lim) : Finds c1 text lim s (hit1 text) (· + 1) := by
  refine ⟨?_⟩
  by_cases hs : s < lim
  · rw [for1 text lim s hs]
    rcases search1 text lim (lim - s) s true (({} : Sre.Seen).add 14) (by omega) with ⟨f, o', seen', a, b, c, d, C⟩ | ⟨d, o', seen', C⟩
    · exact .inl ⟨f, _, _, a, b, c, d, by omega, C, rfl, rfl, rfl⟩
    · exact .inr ⟨d, _, _, by omega, C, rfl⟩
  · obtain rfl : s = lim := by omega
    obtain ⟨m, C, e⟩ := for1_out text s
    exact .inr ⟨fun j h1 h2 => by omega, m, 1, by omega, C, e⟩
theorem finds2 (text : Array Nat) (lim s : Nat) (h : s ≤ lim) : Finds c2 text lim s (hit2 text) (end2 text lim) := by
  refine ⟨?_⟩
  by_cases hs : s < lim
  · rw [for2_eq text lim s hs]
    have hk : lim + 1 - s = (lim - s) + 1 := by omega
    rw [hk]
    rcases adm2 (m20 text lim s) text lim rfl rfl rfl (lim - s) s (({} : Sre.Seen).add 14) (by omega) with ⟨f, seen', a, b, c, d, e⟩ | ⟨d, seen', e⟩
    · rw [e]
      obtain ⟨seen2, C⟩ := try2 text lim f true seen' b c
      exact .inl ⟨f, _, _, a, b, c, d, by omega, C, rfl, rfl, rfl⟩
    · rw [e]
      exact .inr ⟨d, _, 1, by omega, Comes.one (x := { m20 text lim s with seen := seen', answer := some false }) rfl rfl, by kernel_rfl⟩
  · obtain rfl : s = lim := by omega
    obtain ⟨m, C, e⟩ := for2_out text s
    exact .inr ⟨fun j h1 h2 => by omega, m, 1, by omega, C, e⟩

/-- the machine's drive, under the logic -/
theorem drive {M : Model} {A : Around} {E : Value → Shared → Prop} {s : Shared} {Q : Sre.M → Shared → Prop} {m' : Sre.M} (ho : m'.outcome.isSome = true) (h : Q m' s) : ∀ (turns : Nat) (m : Sre.M) (n : Nat), n < 4 * turns → Sre.M.runFor n m = m' →
    wpAny M A (Builtin.Re.reDrive turns m) Q E s
  | 0, m, n, hn, e => by omega
  | t + 1, m, n, hn, e => by
    unfold Builtin.Re.reDrive
    show wpAny M A (if (Sre.M.runFor 4 m).outcome.isSome = true then pure (Sre.M.runFor 4 m) else (rule "sre.turn" >>= fun _ => Builtin.Re.reDrive t (Sre.M.runFor 4 m))) Q E s
    by_cases h4 : (Sre.M.runFor 4 m).outcome.isSome = true
    · rw [if_pos h4]
      have em : Sre.M.runFor 4 m = m' := by
        by_cases hle : n ≤ 4
        · have := runFor_add n (4 - n) m
          rw [show n + (4 - n) = 4 by omega, e, runFor_stop ho] at this
          exact this
        · have := runFor_add 4 (n - 4) m
          rw [show 4 + (n - 4) = n by omega, e, runFor_stop h4] at this
          exact this.symm
      rw [em]
      exact wpAny_pure h
    · rw [if_neg h4]
      have hlt : 4 < n := by
        by_cases hle : n ≤ 4
        · exfalso
          have := runFor_add n (4 - n) m
          rw [show n + (4 - n) = 4 by omega, e, runFor_stop ho] at this
          rw [this] at h4
          exact h4 ho
        · omega
      refine wpAny_bind (wpAny_rule ?_)
      refine drive ho h t _ (n - 4) (by omega) ?_
      have := runFor_add 4 (n - 4) m
      rw [show 4 + (n - 4) = n by omega, e] at this
      exact this.symm
theorem still_for {M : Model} {A : Around} {E : Value → Shared → Prop} {s : Shared} {Q : PUnit → Shared → Prop} (f : Nat → PUnit → Sem (ForInStep PUnit)) (hf : ∀ (i : Nat) (R : ForInStep PUnit → Shared → Prop), R (.yield ⟨⟩) s → wpAny M A (f i ⟨⟩) R E s) (h : Q ⟨⟩ s) : ∀ l : List Nat,
    wpAny M A (forIn l PUnit.unit f) Q E s
  | [] => wpAny_pure h
  | i :: l => by
    rw [List.forIn_cons]
    exact wpAny_bind (hf i _ (still_for f hf h l))
theorem toEnd {M : Model} {A : Around} {E : Value → Shared → Prop} {s : Shared} {Q : Option Sre.M → Shared → Prop} {m m' : Sre.M} {b : Nat} (C : Comes b m m') (hb : b < 4 * 2 ^ 64)
    (h : (m'.outcome = some .matched ∧ Q (some m') s) ∨ (m'.outcome = some .failed ∧ Q none s)) : wpAny M A (Builtin.Re.reRunToEnd m) Q E s := by
  obtain ⟨n, hn, e⟩ := C
  unfold Builtin.Re.reRunToEnd
  refine wpAny_bind (drive (m' := m') (by rcases h with ⟨q, _⟩ | ⟨q, _⟩ <;> rw [q] <;> rfl) ?_ (2 ^ 64) m n (by omega) e)
  refine wpAny_bind (still_for _ (fun i R hR => ?_) ?_ _)
  · cases m'.seen.has i with
    | true => exact wpAny_bind (wpAny_rule (wpAny_pure hR))
    | false => exact wpAny_pure hR
  rcases h with ⟨q, r⟩ | ⟨q, r⟩
  · rw [q]; exact wpAny_pure r
  · rw [q]; exact wpAny_pure r
end Mine

end
section
open PySem PySem.W PyProof.Rows
set_option Elab.async false
set_option maxRecDepth 100000
set_option linter.unusedVariables false
namespace Mine

theorem entry_loop : entryFor table "re.Pattern.sub.loop" = some Builtin.«re.Pattern.sub.loop» := entryFor_of_tree (by kernel_rfl)
theorem entry_sub : entryFor table "re.Pattern.sub" = some Builtin.«re.Pattern.sub» := entryFor_of_tree (by kernel_rfl)
theorem plain_loop : plainId "re.Pattern.sub.loop" = true := by decide +kernel
theorem plain_sub : plainId "re.Pattern.sub" = true := by decide +kernel

theorem sub_tree1 (a : Addr) (x : Str) (tx tr : Tok) : Builtin.«re.Pattern.sub» ⟨[.ref a, .str (Str.ofString "..") tr, .str x tx], []⟩ = (do
    let _ ← Builtin.Re.reWholeTarget (.ref a) (.str x tx)
    let l ← newList []
    again (.builtin "re.Pattern.sub.loop" ⟨[.ref a, .str x tx, .str (Str.ofString "..") tr, rawInt 0, rawInt 0, rawInt 0, rawInt 0, rawInt 0, .bool false, l, .bool false], []⟩)) := by kernel_rfl
theorem sub_tree2 (a : Addr) (x : Str) (tx tr : Tok) : Builtin.«re.Pattern.sub» ⟨[.ref a, .str (Str.mk #[13, 10]) tr, .str x tx], []⟩ = (do
    let _ ← Builtin.Re.reWholeTarget (.ref a) (.str x tx)
    let l ← newList []
    again (.builtin "re.Pattern.sub.loop" ⟨[.ref a, .str x tx, .str (Str.mk #[13, 10]) tr, rawInt 0, rawInt 0, rawInt 0, rawInt 0, rawInt 0, .bool false, l, .bool false], []⟩)) := by kernel_rfl

noncomputable abbrev lo (vs : List Value) (n : Nat) : Obj := { cls := .type "list", data := .seq vs.toArray n }
noncomputable abbrev loopArgs (pa l : Addr) (x R : Str) (tx tr : Tok) (k p : Nat) : Args := ⟨[.ref pa, .str x tx, .str R tr, rawInt 0, rawInt 0, rawInt (k : Nat), rawInt (p : Nat), rawInt (p : Nat), .bool false, .ref l, .bool false], []⟩
open Builtin.Re in
noncomputable def subGo (pa l : Addr) (x R : Str) (tx tr : Tok) (k : Nat) (m : Sre.M) : Sem PySem.Fin := do
  updateSeq l (·.push (.str R tr))
  again (.builtin "re.Pattern.sub.loop" ⟨[.ref pa, .str x tx, .str R tr, rawInt 0, rawInt 0, rawInt (k + 1 : Nat), rawInt m.handed, rawInt m.handed, .bool (m.handed == m.start), .ref l, .bool false], []⟩)
open Builtin.Re in
noncomputable def subEnd (l : Addr) (text : Array Nat) (kind : Nat) : Sem PySem.Fin := do
  let joiner ← reSlice text kind 0 0
  let its ← seqItems? (.ref l)
  if (its.getD #[]).isEmpty then ret joiner else do
    let v ← call (.builtin (if kind == 0 then "str.join" else "bytes.join")) [joiner, .ref l]
    ret v
open Builtin.Re in
noncomputable def subPut (l : Addr) (text : Array Nat) (kind b e : Nat) (k : Sem PySem.Fin) : Sem PySem.Fin :=
  if b < e then (do let v ← reSlice text kind b e; let _ ← updateSeq l (·.push v); k) else k
open Builtin.Re in
theorem loop_tree (pa l : Addr) (x R : Str) (tx tr : Tok) (k p : Nat) : Builtin.«re.Pattern.sub.loop» (loopArgs pa l x R tx tr k p) = (do
    let t ← reWholeTarget (.ref pa) (.str x tx)
    let r ← reNextFound t p false
    match r with
    | some m => subPut l t.text t.kind p m.start (subGo pa l x R tx tr k m)
    | none => subPut l t.text t.kind p t.lim (subEnd l t.text t.kind)) := by kernel_rfl

inductive SubTo (hit : Nat → Bool) (fin : Nat → Nat) (text R : List Nat) (lim : Nat) : Nat → List Nat → Prop
  | stop (p : Nat) : (∀ j, p ≤ j → j < lim → hit j = false) → SubTo hit fin text R lim p (text.drop p)
  | hit (p f : Nat) (r : List Nat) : p ≤ f → f < lim → hit f = true → (∀ j, p ≤ j → j < f → hit j = false) → f < fin f → fin f ≤ lim → SubTo hit fin text R lim (fin f) r → SubTo hit fin text R lim p ((text.drop p).take (f - p) ++ (R ++ r))

/-- the texts glued -/
noncomputable def gl (ys : List Str) : List Nat := ys.flatMap (fun y => y.cps.toList)
theorem join_empty : ∀ ys : List Str, (Str.join (Str.mk #[]) ys).cps.toList = gl ys
  | [] => rfl
  | [x] => by show x.cps.toList = gl [x]; unfold gl; simp
  | x :: y :: r => by
    show (x ++ (Str.mk #[]) ++ Str.join (Str.mk #[]) (y :: r)).cps.toList = gl (x :: y :: r)
    have e : (x ++ (Str.mk #[]) ++ Str.join (Str.mk #[]) (y :: r)).cps.toList = x.cps.toList ++ (Str.join (Str.mk #[]) (y :: r)).cps.toList := by
      show ((x.cps ++ #[]) ++ (Str.join (Str.mk #[]) (y :: r)).cps).toList = _
      simp
    rw [e, join_empty (y :: r)]
    rfl
theorem gl_length : ∀ ys : List Str, (gl ys).length = (ys.map (·.length)).sum
  | [] => rfl
  | y :: r => by
    have := gl_length r
    unfold gl at this ⊢
    rw [List.flatMap_cons, List.length_append, this, List.map_cons, List.sum_cons]
    rfl
theorem gl_append (a b : List Str) : gl (a ++ b) = gl a ++ gl b := by unfold gl; rw [List.flatMap_append]

theorem update_push_self (H : Heap) (o : Obj) (f : Obj → Obj) : (H.push o).update H.objs.size f = H.push (f o) := by
  have : ((H.push o).update H.objs.size f).objs = (H.push (f o)).objs := by
    apply Array.ext_getElem?
    intro i
    show ((H.objs.push o).modify H.objs.size f)[i]? = (H.objs.push (f o))[i]?
    rw [Array.getElem?_modify, Array.getElem?_push, Array.getElem?_push]
    by_cases e : i = H.objs.size
    · subst e; simp
    · simp [e, Ne.symm e]
  show Heap.mk _ _ = Heap.mk _ _
  exact congrArg (Heap.mk · H.life) this

section
variable {prog : Program} {w : World} {A : Around} {H : Heap} {pa : Addr} {x R : Str} {tx tr : Tok} {c : Array Nat} {hit : Nat → Bool} {fin : Nat → Nat}
theorem push_item {s : Shared} {E : Value → Shared → Prop} {vs : List Value} {n tk : Nat} {v : Value} {Q : Unit → Shared → Prop} (hsz : vs.length ≤ 10000000)
    (h : ∀ n', Q () { s with heap := H.push (lo (vs ++ [v]) n'), toks := tk }) : wpAny (model prog w) A (updateSeq H.objs.size (·.push v)) Q E { s with heap := H.push (lo vs n), toks := tk } := by
  refine wpAny_updateSeq (o := lo vs n) (Heap.get?_push_size _ rfl) rfl ?_ (by rw [List.size_toArray, sizeLine_eq]; omega) (by rw [Array.size_push, List.size_toArray, sizeLine_eq]; omega)
  rw [show ({ s with heap := H.push (lo vs n), toks := tk } : Shared).heap = H.push (lo vs n) from rfl, update_push_self]
  have e : Obj.mapSeq (fun xs => xs.push v) (lo vs n) = lo (vs ++ [v]) (if (vs.toArray.push v).size == vs.toArray.size then n else n + 1) :=
    congrArg (fun xs => (⟨.type "list", none, .seq xs (if (vs.toArray.push v).size == vs.toArray.size then n else n + 1), #[]⟩ : Obj)) (List.push_toArray vs v)
  rw [e]
  exact h _
theorem codeAny_bi {id : String} {args : Args} {b : Builtin} {s : Shared} {Rr : Result → Shared → Prop} (hq : plainId id = true) (hb : entryFor table id = some b)
    (h : wpAny (model prog w) A.in1 (b args) (fun fin s' => match fin with | .done f => Rr (.ok f) s' | .again c' => c'.quiet = true ∧ codeAny (model prog w) A c' Rr s') (fun e s' => Rr (.error e) s') s) :
    codeAny (model prog w) A (.builtin id args) Rr s := by
  refine codeAny_of_tree ?_
  rw [Around.under_plainId hq]
  show wpAny _ _ (match entryFor table id with | some b => b args | none => unsupported ((withoutEnding? id "#data").getD id)) _ _ s
  rw [hb]; exact h

theorem sub_loop (hT : ∀ A (Q : Builtin.Re.ReTarget → Shared → Prop) E (s : Shared) vs n tk, Q ⟨.ref pa, .str x tx, c, x.cps, 0, 0, 0, x.cps.size⟩ { s with heap := H.push (lo vs n), toks := tk } →
      wpAny (model prog w) A (Builtin.Re.reWholeTarget (.ref pa) (.str x tx)) Q E { s with heap := H.push (lo vs n), toks := tk })
    (hF : ∀ p, p ≤ x.cps.size → Finds c x.cps x.cps.size p hit fin) (hx : x.cps.size ≤ 1000000) (hR : R.length ≤ 2) {Q : Result → Shared → Prop} {s : Shared} :
    ∀ (p : Nat) (r : List Nat), SubTo hit fin x.cps.toList R.cps.toList x.cps.size p r → p ≤ x.cps.size → ∀ (vs : List Value) (ys : List Str) (n tk k : Nat), StrsAre vs ys → (gl ys).length + ys.length ≤ 5 * p →
      (∀ t vs' n' tk', Q (.ok (.ret (.str ⟨(gl ys ++ r).toArray⟩ t))) { s with heap := H.push (lo vs' n'), toks := tk' }) →
      codeAny (model prog w) A (.builtin "re.Pattern.sub.loop" (loopArgs pa H.objs.size x R tx tr k p)) Q { s with heap := H.push (lo vs n), toks := tk } := by
  intro p r hS
  induction hS with
  | stop p hno =>
    intro hp vs ys n tk k hvs hlen hQ
    have hvl : vs.length = ys.length := hvs.length
    refine codeAny_bi plain_loop entry_loop ?_
    rw [loop_tree]
    refine wpAny_bind (hT _ _ _ s vs n tk ?_)
    rcases (hF p hp).out with ⟨f, m, b, h1, h2, h3, h4, hb, C, o1, o2, o3⟩ | ⟨h4, m, b, hb, C, o1⟩
    · exact absurd h3 (by rw [hno f h1 h2]; exact Bool.false_ne_true)
    refine wpAny_bind (toEnd C (by omega) (.inr ⟨o1, ?_⟩))
    have last : ∀ (vs2 : List Value) (ys2 : List Str) (n2 tk2 : Nat), StrsAre vs2 ys2 → gl ys2 = gl ys ++ x.cps.toList.drop p → ys2.length ≤ ys.length + 1 →
        wpAny (model prog w) A.in1 (subEnd H.objs.size x.cps 0) (fun fin s' => match fin with | .done f => Q (.ok f) s' | .again c' => c'.quiet = true ∧ codeAny (model prog w) A c' Q s') (fun e s' => Q (.error e) s') { s with heap := H.push (lo vs2 n2), toks := tk2 } := by
      intro vs2 ys2 n2 tk2 hv2 hg2 hl2
      refine wpAny_bind (wpAny_mkStr (x := ⟨x.cps.extract 0 0⟩) ?_ (by rw [sizeLine_eq]; show (x.cps.extract 0 0).size ≤ _; rw [Array.size_extract]; omega))
      refine wpAny_bind (wpAny_seqItems (o := lo vs2 n2) (Heap.get?_push_size _ rfl) rfl ?_)
      have ee : (⟨x.cps.extract 0 0⟩ : Str) = Str.mk #[] := by simp
      rw [ee]
      by_cases he : ((some vs2.toArray).getD #[]).isEmpty = true
      · rw [if_pos he]
        have : vs2 = [] := by simpa using he
        subst this
        cases hv2
        refine wpAny_pure ?_
        have e3 : gl ys ++ x.cps.toList.drop p = [] := hg2.symm
        have := hQ tk2 [] n2 (tk2 + 1)
        rw [e3] at this
        exact this
      · rw [if_neg he]
        have hlen2 : (gl ys2).length + ys2.length ≤ 1048576 * 10 := by
          have hxl : x.cps.toList.length = x.cps.size := Array.length_toList
          rw [hg2, List.length_append, List.length_drop, hxl]; omega
        refine wpAny_bind (join_list (D := H.objs.size) (items := vs2.toArray) (ys := ys2) ⟨_, Heap.get?_push_size _ rfl, rfl, _, rfl⟩ hv2 (by rw [← gl_length]; show (gl ys2).length + ys2.length * 0 ≤ _; omega) (fun t' k' => ?_))
        refine wpAny_pure ?_
        have e4 : Txt.join (Str.mk #[]) ys2 = ⟨(gl ys ++ x.cps.toList.drop p).toArray⟩ := by
          show Builtin.Str.glued _ _ = _
          rw [StrLaws.glued_eq_join, ← hg2, ← join_empty]
        rw [e4]
        exact hQ t' vs2 n2 k'
    show wpAny (model prog w) A.in1 (subPut H.objs.size x.cps 0 p x.cps.size (subEnd H.objs.size x.cps 0)) _ _ _
    unfold subPut
    by_cases hlt : p < x.cps.size
    · rw [if_pos hlt]
      refine wpAny_bind (wpAny_mkStr (x := ⟨x.cps.extract p x.cps.size⟩) ?_ (by rw [sizeLine_eq]; show (x.cps.extract p x.cps.size).size ≤ _; rw [Array.size_extract]; omega))
      refine wpAny_bind (push_item (by omega) (fun n' => ?_))
      refine last _ (ys ++ [⟨x.cps.extract p x.cps.size⟩]) n' _ (StrsAre.append' hvs (.cons _ _ .nil)) ?_ (by rw [List.length_append]; exact Nat.le_refl _)
      rw [gl_append]
      congr 1
      show gl [_] = _
      unfold gl
      simp
      exact List.take_of_length_le (by rw [List.length_drop, Array.length_toList]; omega)
    · rw [if_neg hlt]
      refine last vs ys n tk hvs ?_ (by omega)
      rw [List.drop_of_length_le (by rw [Array.length_toList]; omega), List.append_nil]
  | hit p f r h1 h2 h3 h4 h5 h6 hS ih =>
    intro hp vs ys n tk k hvs hlen hQ
    have hvl : vs.length = ys.length := hvs.length
    refine codeAny_bi plain_loop entry_loop ?_
    rw [loop_tree]
    refine wpAny_bind (hT _ _ _ s vs n tk ?_)
    rcases (hF p hp).out with ⟨f', m, b, g1, g2, g3, g4, hb, C, o1, o2, o3⟩ | ⟨g4, m, b, hb, C, o1⟩
    rotate_left
    · exact absurd h3 (by rw [g4 f h1 h2]; exact Bool.false_ne_true)
    have ef : f' = f := by
      rcases Nat.lt_trichotomy f' f with q | q | q
      · exact absurd g3 (by rw [h4 f' g1 q]; exact Bool.false_ne_true)
      · exact q
      · exact absurd h3 (by rw [g4 f h1 q]; exact Bool.false_ne_true)
    subst ef
    refine wpAny_bind (toEnd C (by omega) (.inl ⟨o1, ?_⟩))
    have step : ∀ (vs2 : List Value) (ys2 : List Str) (n2 tk2 : Nat), StrsAre vs2 ys2 → gl ys2 = gl ys ++ (x.cps.toList.drop p).take (f' - p) → ys2.length ≤ ys.length + 1 →
        wpAny (model prog w) A.in1 (subGo pa H.objs.size x R tx tr k m)
          (fun fin s' => match fin with | .done f => Q (.ok f) s' | .again c' => c'.quiet = true ∧ codeAny (model prog w) A c' Q s') (fun e s' => Q (.error e) s') { s with heap := H.push (lo vs2 n2), toks := tk2 } := by
      intro vs2 ys2 n2 tk2 hv2 hg2 hl2
      have hvl2 : vs2.length = ys2.length := hv2.length
      refine wpAny_bind (push_item (by omega) (fun n' => ?_))
      refine wpAny_pure ⟨plainId_quiet plain_loop _, ?_⟩
      rw [show (m.handed == m.start) = false from by rw [o2, o3]; exact beq_eq_false_iff_ne.mpr (by omega), o3]
      have hgl : (gl (ys2 ++ [R])).length + (ys2 ++ [R]).length ≤ 5 * fin f' := by
        have hR2 : (gl [R]).length ≤ 2 := by rw [gl_length]; simpa using hR
        rw [gl_append, List.length_append, hg2, List.length_append, List.length_append, List.length_take, List.length_singleton]
        omega
      refine ih h6 (vs2 ++ [.str R tr]) (ys2 ++ [R]) n' tk2 (k + 1) (StrsAre.append' hv2 (.cons _ _ .nil)) hgl (fun t vs' n'' tk' => ?_)
      have e : gl (ys2 ++ [R]) ++ r = gl ys ++ ((x.cps.toList.drop p).take (f' - p) ++ (R.cps.toList ++ r)) := by
        rw [gl_append, hg2]
        have : gl [R] = R.cps.toList := by unfold gl; simp
        rw [this]
        simp only [List.append_assoc]
      rw [e]
      exact hQ t vs' n'' tk'
    show wpAny (model prog w) A.in1 (subPut H.objs.size x.cps 0 p m.start (subGo pa H.objs.size x R tx tr k m)) _ _ _
    unfold subPut
    rw [o2]
    by_cases hlt : p < f'
    · rw [if_pos hlt]
      refine wpAny_bind (wpAny_mkStr (x := ⟨x.cps.extract p f'⟩) ?_ (by rw [sizeLine_eq]; show (x.cps.extract p f').size ≤ _; rw [Array.size_extract]; omega))
      refine wpAny_bind (push_item (by omega) (fun n' => ?_))
      refine step _ (ys ++ [⟨x.cps.extract p f'⟩]) n' _ (StrsAre.append' hvs (.cons _ _ .nil)) ?_ (by rw [List.length_append]; exact Nat.le_refl _)
      rw [gl_append]
      congr 1
      show gl [_] = _
      unfold gl
      simp
    · rw [if_neg hlt]
      refine step vs ys n tk hvs ?_ (by omega)
      rw [show f' - p = 0 by omega, List.take_zero, List.append_nil]
end

section
variable {prog : Program} {w : World} {A : Around} {pa : Addr} {x R : Str} {tx tr : Tok} {c : Array Nat} {hit : Nat → Bool} {fin : Nat → Nat} {s : Shared} {E : Value → Shared → Prop} {Q : Value → Shared → Prop} {h₀ : Heap} {L : Addr} {m : Str → Option Value} {news : List (Addr × Obj)} {r : List Nat}
theorem sub_call (htree : Builtin.«re.Pattern.sub» ⟨[.ref pa, .str R tr, .str x tx], []⟩ = (do
      let _ ← Builtin.Re.reWholeTarget (.ref pa) (.str x tx)
      let l ← newList []
      again (.builtin "re.Pattern.sub.loop" ⟨[.ref pa, .str x tx, .str R tr, rawInt 0, rawInt 0, rawInt 0, rawInt 0, rawInt 0, .bool false, l, .bool false], []⟩)))
    (hT : Looks (model prog w) h₀ (Builtin.Re.reWholeTarget (.ref pa) (.str x tx)) ⟨.ref pa, .str x tx, c, x.cps, 0, 0, 0, x.cps.size⟩)
    (hC : Looks (model prog w) h₀ (checkBuiltinCall "re.Pattern.sub" ⟨[.ref pa, .str R tr, .str x tx], []⟩) ())
    (F : Fr h₀ L s.heap m) (N : News h₀ L s.heap news) (hF : ∀ p, p ≤ x.cps.size → Finds c x.cps x.cps.size p hit fin) (hx : x.cps.size ≤ 1000000) (hR : R.length ≤ 2)
    (hS : SubTo hit fin x.cps.toList R.cps.toList x.cps.size 0 r)
    (h : ∀ h' t tk', Fr h₀ L h' m → News h₀ L h' news → Q (.str ⟨r.toArray⟩ t) { s with heap := h', toks := tk' }) :
    wpAny (model prog w) A (call (.builtin "re.Pattern.sub") [.ref pa, .str R tr, .str x tx]) Q E s := by
  refine wpAny_call (codeAny_call_builtin plain_sub entry_sub ?_)
  refine (hC.keeps F.keep).here ?_
  rw [htree]
  refine wpAny_bind ((hT.keeps F.keep).here ?_)
  refine wpAny_bind (wpAny_newList ?_ (by show 0 ≤ sizeLine; exact Nat.zero_le _))
  refine wpAny_pure ⟨plainId_quiet plain_loop _, ?_⟩
  refine sub_loop (H := s.heap) (s := s) (fun A Q E s' vs n tk q => ?_) hF hx hR 0 r hS (Nat.zero_le _) [] [] 0 s.toks 0 .nil (Nat.le_refl _) (fun t vs' n' tk' => ?_)
  · exact hT A Q E _ (fun b o e => Heap.get?_push_of_some _ (F.keep b o e)) q
  · exact h _ t tk' (F.push _) (fun p hp => News.push F N (lo vs' n') rfl p (List.mem_cons_of_mem _ hp))
end

theorem SubTo.ext {hit : Nat → Bool} {fin : Nat → Nat} {text R : List Nat} {lim p : Nat} {r : List Nat} (hl : p < text.length) (hh : hit p = false) (h : SubTo hit fin text R lim (p + 1) r) : SubTo hit fin text R lim p (text[p] :: r) := by
  have hd : text.drop p = text[p] :: text.drop (p + 1) := List.drop_eq_getElem_cons hl
  cases h with
  | stop _ h1 =>
    rw [← hd]
    refine .stop p fun j j1 j2 => ?_
    by_cases e : j = p
    · rw [e]; exact hh
    · exact h1 j (by omega) j2
  | hit _ f r' h1 h2 h3 h4 h5 h6 h7 =>
    have := SubTo.hit (R := R) p f r' (by omega) h2 h3 (fun j j1 j2 => by
      by_cases e : j = p
      · rw [e]; exact hh
      · exact h4 j (by omega) j2) h5 h6 h7
    rw [hd, show f - p = (f - (p + 1)) + 1 by omega, List.take_succ_cons] at this
    exact this

/-- a dot at a row's begin is doubled; b: a row begins here -/
noncomputable def dots : Bool → List Nat → List Nat
  | _, [] => []
  | b, c :: r => (if b = true ∧ c = 46 then [46, 46] else [c]) ++ dots (c == 10) r
/-- rows end with a return and a feed; b: a return stood right before -/
noncomputable def crlf : Bool → List Nat → List Nat
  | _, [] => []
  | b, c :: r => if c = 10 then (if b = true then crlf false r else 13 :: 10 :: crlf false r) else if c = 13 then 13 :: 10 :: crlf true r else c :: crlf false r
theorem getD_of_lt {text : List Nat} {p : Nat} (h : p < text.length) : text.toArray.getD p 0 = text[p] := by
  rw [Array.getD_eq_getD_getElem?, List.getElem?_toArray, List.getElem?_eq_getElem h]; rfl
theorem subTo1 (text : List Nat) : ∀ (k p : Nat), p + k = text.length →
    SubTo (hit1 text.toArray) (· + 1) text [46, 46] text.length p (dots (p == 0 || text.toArray.getD (p - 1) 0 == 10) (text.drop p))
  | 0, p, e => by
    have h0 : text.drop p = [] := List.drop_of_length_le (by omega)
    have := SubTo.stop (hit := hit1 text.toArray) (fin := (· + 1)) (text := text) (R := [46, 46]) (lim := text.length) p (fun j h1 h2 => by omega)
    rw [h0] at this ⊢
    exact this
  | k + 1, p, e => by
    have hl : p < text.length := by omega
    have hd : text.drop p = text[p] :: text.drop (p + 1) := List.drop_eq_getElem_cons hl
    have ih := subTo1 text k (p + 1) (by omega)
    have hb : (p + 1 == 0 || text.toArray.getD (p + 1 - 1) 0 == 10) = (text[p] == 10) := by
      rw [Nat.add_sub_cancel, getD_of_lt hl]; rfl
    rw [hb] at ih
    rw [hd]
    cases hh : hit1 text.toArray p with
    | true =>
      have h2 : (p == 0 || text.toArray.getD (p - 1) 0 == 10) = true ∧ text[p] = 46 := by
        unfold hit1 at hh
        rw [Bool.and_eq_true] at hh
        refine ⟨hh.1, ?_⟩
        have := hh.2
        rw [getD_of_lt hl] at this
        simpa using this
      have := SubTo.hit (R := [46, 46]) p p _ (Nat.le_refl _) hl hh (fun j j1 j2 => by omega) (Nat.lt_succ_self _) (by omega) ih
      rw [Nat.sub_self, List.take_zero, List.nil_append] at this
      unfold dots
      rw [if_pos h2]
      exact this
    | false =>
      have := ih.ext hl hh
      unfold dots
      rw [if_neg]
      · exact this
      · rintro ⟨a, b⟩
        unfold hit1 at hh
        rw [a, getD_of_lt hl, b] at hh
        exact Bool.noConfusion hh
theorem crlf_flag {r : List Nat} (h : r.head? ≠ some 10) : crlf true r = crlf false r := by
  cases r with
  | nil => rfl
  | cons c r =>
    have hc : c ≠ 10 := fun e => h (by rw [e]; rfl)
    unfold crlf
    rw [if_neg hc, if_neg hc]
theorem subTo2 (text : List Nat) : ∀ (k p : Nat), p ≤ text.length → text.length < p + k →
    SubTo (hit2 text.toArray) (end2 text.toArray text.length) text [13, 10] text.length p (crlf false (text.drop p))
  | 0, p, h1, h2 => by omega
  | k + 1, p, h1, h2 => by
    by_cases hl : p < text.length
    · have hd : text.drop p = text[p] :: text.drop (p + 1) := List.drop_eq_getElem_cons hl
      have ih := subTo2 text k (p + 1) (by omega) (by omega)
      rw [hd]
      by_cases h13 : text[p] = 13
      · have hh : hit2 text.toArray p = true := by unfold hit2; rw [getD_of_lt hl, h13]; rfl
        by_cases h10 : p + 1 < text.length ∧ text.toArray.getD (p + 1) 0 = 10
        · have he : end2 text.toArray text.length p = p + 2 := by unfold end2; rw [if_pos ⟨by rw [getD_of_lt hl]; exact h13, h10⟩]
          have ih2 := subTo2 text k (p + 2) (by omega) (by omega)
          have := SubTo.hit (R := [13, 10]) (hit := hit2 text.toArray) (fin := end2 text.toArray text.length) p p _ (Nat.le_refl _) hl hh (fun j j1 j2 => by omega) (by omega) (by omega) (by rw [he]; exact ih2)
          rw [Nat.sub_self, List.take_zero, List.nil_append] at this
          have hd2 : text.drop (p + 1) = text[p + 1] :: text.drop (p + 2) := List.drop_eq_getElem_cons h10.1
          have e10 : text[p + 1] = 10 := by rw [← getD_of_lt h10.1]; exact h10.2
          have : SubTo (hit2 text.toArray) (end2 text.toArray text.length) text [13, 10] text.length p (crlf false (13 :: 10 :: text.drop (p + 2))) := this
          rw [h13, hd2, e10]
          exact this
        · have he : end2 text.toArray text.length p = p + 1 := by unfold end2; rw [if_neg (fun q => h10 q.2)]
          have := SubTo.hit (R := [13, 10]) (hit := hit2 text.toArray) (fin := end2 text.toArray text.length) p p _ (Nat.le_refl _) hl hh (fun j j1 j2 => by omega) (by omega) (by omega) (by rw [he]; exact ih)
          rw [Nat.sub_self, List.take_zero, List.nil_append] at this
          have hf : crlf true (text.drop (p + 1)) = crlf false (text.drop (p + 1)) := crlf_flag (fun q => by
            by_cases hp : p + 1 < text.length
            · rw [List.drop_eq_getElem_cons hp] at q
              exact h10 ⟨hp, by rw [getD_of_lt hp]; exact Option.some.inj q⟩
            · rw [List.drop_of_length_le (by omega)] at q; cases q)
          rw [h13]
          show SubTo _ _ _ _ _ _ (13 :: 10 :: crlf true (text.drop (p + 1)))
          rw [hf]
          exact this
      · by_cases h10 : text[p] = 10
        · have hh : hit2 text.toArray p = true := by unfold hit2; rw [getD_of_lt hl, h10]; rfl
          have he : end2 text.toArray text.length p = p + 1 := by unfold end2; rw [if_neg (fun q => by have := q.1; rw [getD_of_lt hl] at this; exact h13 this)]
          have := SubTo.hit (R := [13, 10]) (hit := hit2 text.toArray) (fin := end2 text.toArray text.length) p p _ (Nat.le_refl _) hl hh (fun j j1 j2 => by omega) (by omega) (by omega) (by rw [he]; exact ih)
          rw [Nat.sub_self, List.take_zero, List.nil_append] at this
          rw [h10]
          exact this
        · have hh : hit2 text.toArray p = false := by
            unfold hit2; rw [getD_of_lt hl]
            simp [h10, h13]
          have := ih.ext hl hh
          unfold crlf
          rw [if_neg h10, if_neg h13]
          exact this
    · have h0 : text.drop p = [] := List.drop_of_length_le (by omega)
      have := SubTo.stop (hit := hit2 text.toArray) (fin := end2 text.toArray text.length) (text := text) (R := [13, 10]) (lim := text.length) p (fun j h1 h2 => by omega)
      rw [h0] at this ⊢
      exact this
end Mine

end
section
open PySem PySem.W PyProof.Rows
set_option Elab.async false
set_option maxRecDepth 100000
set_option linter.unusedVariables false
namespace Mine
open PySem.Builtin.Str in
theorem idx_gen (lo hi : Option Int) (n a b : Nat) (ha : (a : Int) = (match lo with | none => 0 | some i => max 0 (min (if i < 0 then i + n else i) n)))
    (hb : (b : Int) = (match hi with | none => (n : Int) | some i => max 0 (min (if i < 0 then i + n else i) n))) :
    strSliceIndices lo hi 1 n = (List.range (b - a)).map (fun k => a + k) := by
  have key : ∀ A B : Int, A = a → B = b → sliceRange A B 1 = (List.range (b - a)).map (fun k => a + k) := by
    rintro A B rfl rfl
    unfold sliceRange
    simp only [show ((1 : Int) > 0) = True from by simp, if_true]
    by_cases hlt : (a : Int) < b
    · have e3 : (((b : Int) - a + 1 - 1) / 1).toNat = b - a := by rw [Int.ediv_one]; omega
      simp only [hlt, if_true, e3]
      refine List.map_congr_left fun k _ => ?_
      omega
    · have : b - a = 0 := by omega
      simp [hlt, this]
  unfold strSliceIndices
  cases lo <;> cases hi <;> (simp only [show ((1 : Int) > 0) = True from by simp, if_true]; exact key _ _ (by rw [ha]) (by rw [hb]))
theorem slice_gen (x : Str) (lo hi : Option Int) (a b : Nat) (ha : (a : Int) = (match lo with | none => 0 | some i => max 0 (min (if i < 0 then i + x.length else i) x.length)))
    (hb : (b : Int) = (match hi with | none => (x.length : Int) | some i => max 0 (min (if i < 0 then i + x.length else i) x.length))) :
    Txt.slice x lo hi = ⟨((x.cps.toList.drop a).take (b - a)).toArray⟩ := by
  have han : a ≤ x.length := by cases lo <;> simp at ha <;> omega
  have hbn : b ≤ x.length := by cases hi <;> simp at hb <;> omega
  have hl : x.cps.toList.length = x.length := Array.length_toList
  have hi' := idx_gen lo hi x.length a b ha hb
  unfold Txt.slice
  rw [hi']
  have hp := StrLaws.picks x.cps.toList (b - a) a
  by_cases hab : a ≤ b
  · have hp := hp (by omega)
    by_cases hfull : b - a = x.length
    · have h0 : a = 0 := by omega
      rw [if_pos (by simp [hfull])]
      subst h0
      rw [List.drop_zero, List.take_of_length_le (by omega)]
    · rw [if_neg (by simp [hfull])]
      congr 1
      have e : (fun i : Nat => x.cps[i]?) = (fun i : Nat => x.cps.toList[i]?) := by funext i; simp
      rw [e, hp]
  · have h0 : b - a = 0 := by omega
    rw [h0]
    by_cases hn : x.length = 0
    · rw [if_pos (by simp [hn])]
      have : x.cps = #[] := by
        have : x.cps.size = 0 := hn
        exact Array.eq_empty_of_size_eq_zero this
      obtain ⟨c⟩ := x
      simp only at this
      subst this
      simp
    · rw [if_neg (by simp; omega)]
      simp
theorem item_gen (x : Str) (i : Int) (h0 : 0 ≤ i) (h1 : i < x.length) : Txt.item x i = ⟨#[x.cps.getD i.toNat 0]⟩ := by
  unfold Txt.item Txt.charAt seqIndex?
  have h : x.cps.size = x.length := rfl
  have e1 : ¬ i < 0 := by omega
  simp only [e1, if_false]
  rw [if_pos (by simp; omega)]
  show (⟨#[(x.cps[i.toNat]?).getD 0]⟩ : Str) = _
  rw [Array.getD_eq_getD_getElem?]
theorem str_app (a b : Str) : (a ++ b).cps.toList = a.cps.toList ++ b.cps.toList := by
  show (a.cps ++ b.cps).toList = _
  simp
theorem len_toList (v : Str) : v.cps.toList.length = v.length := Array.length_toList
theorem str_len (l : List Nat) : (Str.mk l.toArray).length = l.length := by show l.toArray.size = _; exact List.size_toArray
theorem getD_toList (v : Str) (i : Nat) : v.cps.getD i 0 = v.cps.toList.getD i 0 := by
  rw [Array.getD_eq_getD_getElem?, List.getD_eq_getElem?_getD]; simp

/-- what is told between two quotation marks: a doubled one is one, a single one ends it -/
noncomputable def unq : Bool → List Nat → List Nat
  | _, [] => []
  | false, c :: r => if c = 34 then unq true r else c :: unq false r
  | true, c :: r => if c = 34 then 34 :: unq false r else []
theorem unq_nil (b : Bool) : unq b [] = [] := by cases b <;> rfl
theorem unq_f (c : Nat) (r : List Nat) : unq false (c :: r) = if c = 34 then unq true r else c :: unq false r := rfl
theorem unq_t (c : Nat) (r : List Nat) : unq true (c :: r) = if c = 34 then 34 :: unq false r else [] := rfl
noncomputable def pF (v : Str) : Str := if (v.cps.toList.drop 3).take 2 = [32, 34] then ⟨(unq false (v.cps.toList.drop 5)).toArray⟩ else ⟨#[]⟩
noncomputable def PInv (v : Str) (i : Int) (d : Str) : Prop := unq false (v.cps.toList.drop 5) = d.cps.toList ++ unq false (v.cps.toList.drop i.toNat)
theorem unq_len : ∀ (b : Bool) (l : List Nat), (unq b l).length ≤ l.length
  | _, [] => by unfold unq; exact Nat.le_refl _
  | false, c :: r => by
    have h1 := unq_len true r
    have h2 := unq_len false r
    unfold unq
    split <;> simp only [List.length_cons] <;> omega
  | true, c :: r => by
    have h2 := unq_len false r
    unfold unq
    split <;> simp only [List.length_cons, List.length_nil] <;> omega
theorem slice_257 (v : Str) : Txt.slice v none (some 3) = ⟨(v.cps.toList.take 3).toArray⟩ := by
  rw [slice_gen v none (some 3) 0 (min 3 v.length) rfl (by simp only; rw [if_neg (by omega)]; omega), List.drop_zero, Nat.sub_zero]
  congr 2
  by_cases h : v.length ≤ 3
  · rw [List.take_of_length_le (by rw [len_toList]; omega), List.take_of_length_le (by rw [len_toList]; omega)]
  · rw [show min 3 v.length = 3 by omega]
theorem slice_35 (v : Str) : Txt.slice v (some 3) (some 5) = ⟨((v.cps.toList.drop 3).take 2).toArray⟩ := by
  rw [slice_gen v (some 3) (some 5) (min 3 v.length) (min 5 v.length) (by simp only; rw [if_neg (by omega)]; omega) (by simp only; rw [if_neg (by omega)]; omega)]
  congr 2
  have hl := len_toList v
  by_cases h : v.length ≤ 3
  · rw [List.drop_of_length_le (l := v.cps.toList) (i := 3) (by omega), List.drop_of_length_le (by omega), List.take_nil, List.take_nil]
  · rw [show min 3 v.length = 3 by omega]
    by_cases h5 : v.length ≤ 5
    · rw [List.take_of_length_le (by rw [List.length_drop]; omega), List.take_of_length_le (by rw [List.length_drop]; omega)]
    · rw [show min 5 v.length - 3 = 2 by omega]
theorem is_257 (v : Str) : (Txt.slice v none (some 3) != PySem.Str.ofString "257") = !decide (v.cps.toList.take 3 = [50, 53, 55]) := by
  rw [slice_257]
  have e : PySem.Str.ofString "257" = ⟨#[50, 53, 55]⟩ := by decide +kernel
  rw [e]
  by_cases h : v.cps.toList.take 3 = [50, 53, 55]
  · rw [h]; simp
  · simp only [bne, h, decide_false, Bool.not_false]
    rw [beq_eq_false_iff_ne.mpr]; rfl
    intro q
    injection q with q
    exact h (by have := congrArg Array.toList q; exact this)
theorem is_q (v : Str) : (Txt.slice v (some 3) (some 5) != PySem.Str.ofString " \"") = !decide ((v.cps.toList.drop 3).take 2 = [32, 34]) := by
  rw [slice_35]
  have e : PySem.Str.ofString " \"" = ⟨#[32, 34]⟩ := by decide +kernel
  rw [e]
  by_cases h : (v.cps.toList.drop 3).take 2 = [32, 34]
  · rw [h]; simp
  · simp only [bne, h, decide_false, Bool.not_false]
    rw [beq_eq_false_iff_ne.mpr]; rfl
    intro q
    injection q with q
    exact h (by have := congrArg Array.toList q; exact this)
theorem len_ge5 {v : Str} (h : (v.cps.toList.drop 3).take 2 = [32, 34]) : 5 ≤ v.length := by
  have := congrArg List.length h
  rw [List.length_take, List.length_drop, len_toList] at this
  simp at this
  omega
theorem pinv_start (v : Str) : PInv v 5 (PySem.Str.ofString "") := by
  unfold PInv
  rw [show PySem.Str.ofString "" = ⟨#[]⟩ from by decide +kernel]
  rfl
theorem drop_at {v : Str} {i : Int} (h0 : 0 ≤ i) (h1 : i < v.length) : v.cps.toList.drop i.toNat = v.cps.getD i.toNat 0 :: v.cps.toList.drop (i + 1).toNat := by
  have hl : i.toNat < v.cps.toList.length := by rw [len_toList]; omega
  rw [List.drop_eq_getElem_cons hl, getD_toList, List.getD_eq_getElem?_getD, List.getElem?_eq_getElem hl, show (i + 1).toNat = i.toNat + 1 by omega]
  rfl
theorem q34 : PySem.Str.ofString "\"" = ⟨#[34]⟩ := by decide +kernel
theorem item_q {v : Str} {i : Int} (h0 : 0 ≤ i) (h1 : i < v.length) : (Txt.item v i == PySem.Str.ofString "\"") = decide (v.cps.getD i.toNat 0 = 34) := by
  rw [item_gen v i h0 h1, q34]
  by_cases h : v.cps.getD i.toNat 0 = 34
  · rw [h]; simp
  · simp only [h, decide_false]
    rw [beq_eq_false_iff_ne]
    intro q
    injection q with q
    have := congrArg (fun a => a.toList.headD 0) q
    exact h this
/-- a sign that is no quotation mark is told -/
theorem pinv_other {v d : Str} {i : Int} (h : PInv v i d) (h0 : 5 ≤ i) (h1 : i < v.length) (hq : (Txt.item v i == PySem.Str.ofString "\"") = false) : PInv v (i + 1) (d ++ Txt.item v i) := by
  rw [item_q (by omega) h1, decide_eq_false_iff_not] at hq
  unfold PInv at h ⊢
  rw [h, str_app, List.append_assoc, drop_at (by omega) h1, item_gen v i (by omega) h1]
  rw [unq_f, if_neg hq]
  rfl
/-- two quotation marks: one is told -/
theorem pinv_two {v d : Str} {i : Int} (h : PInv v i d) (h0 : 5 ≤ i) (h1 : i + 1 < v.length) (hq : (Txt.item v i == PySem.Str.ofString "\"") = true) (hq2 : (Txt.item v (i + 1) != PySem.Str.ofString "\"") = false) : PInv v (i + 1 + 1) (d ++ Txt.item v i) := by
  rw [item_q (by omega) (by omega), decide_eq_true_eq] at hq
  have hq2' : (Txt.item v (i + 1) == PySem.Str.ofString "\"") = true := by simpa [bne] using hq2
  rw [item_q (by omega) (by omega), decide_eq_true_eq] at hq2'
  unfold PInv at h ⊢
  rw [h, str_app, List.append_assoc, drop_at (by omega) (by omega), drop_at (i := i + 1) (by omega) (by omega), item_gen v i (by omega) (by omega), hq, hq2']
  rw [unq_f, if_pos rfl, unq_t, if_pos rfl]
  rfl
/-- a single one ends it -/
theorem pinv_end1 {v d : Str} {i : Int} (h : PInv v i d) (h0 : 5 ≤ i) (h1 : i < v.length) (hl : (v.length : Int) ≤ i + 1) (hq : (Txt.item v i == PySem.Str.ofString "\"") = true) : unq false (v.cps.toList.drop 5) = d.cps.toList := by
  rw [item_q (by omega) (by omega), decide_eq_true_eq] at hq
  unfold PInv at h
  rw [h, drop_at (by omega) h1, hq, List.drop_of_length_le (by rw [len_toList]; omega)]
  rw [unq_f, if_pos rfl, unq_nil, List.append_nil]
theorem pinv_end2 {v d : Str} {i : Int} (h : PInv v i d) (h0 : 5 ≤ i) (h1 : i + 1 < v.length) (hq : (Txt.item v i == PySem.Str.ofString "\"") = true) (hq2 : (Txt.item v (i + 1) != PySem.Str.ofString "\"") = true) : unq false (v.cps.toList.drop 5) = d.cps.toList := by
  rw [item_q (by omega) (by omega), decide_eq_true_eq] at hq
  have hq2' : (Txt.item v (i + 1) == PySem.Str.ofString "\"") = false := by simpa [bne] using hq2
  rw [item_q (by omega) (by omega), decide_eq_false_iff_not] at hq2'
  unfold PInv at h
  rw [h, drop_at (by omega) (by omega), drop_at (i := i + 1) (by omega) (by omega), hq]
  rw [unq_f, if_pos rfl, unq_t, if_neg hq2', List.append_nil]
theorem pinv_out {v d : Str} {i : Int} (h : PInv v i d) (hl : ¬ i < v.length) : unq false (v.cps.toList.drop 5) = d.cps.toList := by
  unfold PInv at h
  rw [h, List.drop_of_length_le (by rw [len_toList]; omega)]
  rw [unq_nil, List.append_nil]
theorem pF_of {v d : Str} (hq : (v.cps.toList.drop 3).take 2 = [32, 34]) (h : unq false (v.cps.toList.drop 5) = d.cps.toList) : pF v = d := by
  unfold pF
  rw [if_pos hq, h]
theorem item_len (v : Str) (i : Int) : (Txt.item v i).length = 1 := rfl
theorem app_len (a b : Str) : (a ++ b).length = a.length + b.length := by
  rw [← len_toList, ← len_toList, ← len_toList, str_app, List.length_append]
end Mine

end
section
open PySem PySem.W PyProof.Rows
set_option Elab.async false
set_option maxRecDepth 100000
set_option linter.unusedVariables false
namespace Mine
section
variable {prog : Program} {w : World} {A : Around} {E : Value → Shared → Prop} {s : Shared} {h₀ : Heap} {L : Addr} {m : Str → Option Value} {news : List (Addr × Obj)} {x : Str} {tx tr : Tok}
theorem gm_sub1 {pl : Sem Bool} {Q : Value × List Value → Shared → Prop} (X : (K w.params).In h₀) (F : Fr h₀ L s.heap m) (h : Q (.builtin "re.Pattern.sub", [.ref 68]) s) : wpAny (model prog w) A (getMethod (.ref 68) (PySem.Str.ofString "sub") pl) Q E s :=
  (Looks.of_peek (X.keeps F.keep) (by kernel_rfl)).here h
theorem gm_sub2 {pl : Sem Bool} {Q : Value × List Value → Shared → Prop} (X : (K w.params).In h₀) (F : Fr h₀ L s.heap m) (h : Q (.builtin "re.Pattern.sub", [.ref 73]) s) : wpAny (model prog w) A (getMethod (.ref 73) (PySem.Str.ofString "sub") pl) Q E s :=
  (Looks.of_peek (X.keeps F.keep) (by kernel_rfl)).here h
theorem call_sub1 {Q : Value → Shared → Prop} (X : (K w.params).In h₀) (F : Fr h₀ L s.heap m) (N : News h₀ L s.heap news) (hx : x.length ≤ 1000000)
    (h : ∀ h' t tk', Fr h₀ L h' m → News h₀ L h' news → Q (.str ⟨(dots true x.cps.toList).toArray⟩ t) { s with heap := h', toks := tk' }) :
    wpAny (model prog w) A (call (.builtin "re.Pattern.sub") [.ref 68, .str (PySem.Str.ofString "..") tr, .str x tx]) Q E s := by
  have S := subTo1 x.cps.toList x.cps.size 0 (by rw [Nat.zero_add, Array.length_toList])
  rw [Array.length_toList] at S
  exact sub_call (c := c1) (sub_tree1 _ _ _ _) (Looks.of_peek X (by kernel_rfl)) (Looks.of_peek X (by kernel_rfl)) F N (fun p hp => finds1 x.cps x.cps.size p hp) hx (by decide) S h
theorem call_sub2 {Q : Value → Shared → Prop} (X : (K w.params).In h₀) (F : Fr h₀ L s.heap m) (N : News h₀ L s.heap news) (hx : x.length ≤ 1000000)
    (h : ∀ h' t tk', Fr h₀ L h' m → News h₀ L h' news → Q (.str ⟨(crlf false x.cps.toList).toArray⟩ t) { s with heap := h', toks := tk' }) :
    wpAny (model prog w) A (call (.builtin "re.Pattern.sub") [.ref 73, .str (PySem.Str.mk #[13, 10]) tr, .str x tx]) Q E s := by
  have S := subTo2 x.cps.toList (x.cps.size + 1) 0 (Nat.zero_le _) (by rw [Array.length_toList]; omega)
  rw [Array.length_toList] at S
  exact sub_call (c := c2) (sub_tree2 _ _ _ _) (Looks.of_peek X (by kernel_rfl)) (Looks.of_peek X (by kernel_rfl)) F N (fun p hp => finds2 x.cps x.cps.size p hp) hx (by decide) S h
end
theorem crlf_len : ∀ (b : Bool) (l : List Nat), (crlf b l).length ≤ 2 * l.length
  | _, [] => Nat.le_refl _
  | b, c :: r => by
    have h1 := crlf_len false r
    have h2 := crlf_len true r
    unfold crlf
    split
    · split <;> simp only [List.length_cons] <;> omega
    · split <;> simp only [List.length_cons] <;> omega
end Mine

end
section
open PySem PySem.W PyProof.Rows
set_option Elab.async false
set_option maxRecDepth 100000
set_option linter.unusedVariables false
namespace Mine
noncomputable def quoteS (v : Str) : Str := ⟨(dots true (crlf false v.cps.toList)).toArray⟩
theorem crlfS_len (v : Str) : (Str.mk (crlf false v.cps.toList).toArray).length ≤ 2 * v.length := by
  rw [str_len]; have := crlf_len false v.cps.toList; rw [Array.length_toList] at this; exact this
local macro_rules | `(tactic| walk_at "getMethod ref") => `(tactic| (k_here; k_dflt (first | (refine gm_sub1 (by k_asm) (by k_asm) ?_) | (refine gm_sub2 (by k_asm) (by k_asm) ?_))))
local macro_rules | `(tactic| walk_at "call builtin:re.Pattern.sub") => `(tactic| (k_here; k_dflt (first | (refine call_sub1 (by k_asm) (by k_asm) (by k_asm) (by first | assumption | (have := crlfS_len; simp only [str_len] at *; omega)) ?_; intro h' t' k' F' N') | (refine call_sub2 (by k_asm) (by k_asm) (by k_asm) (by first | assumption | omega) ?_; intro h' t' k' F' N'))))
set_option maxHeartbeats 8000000 in
theorem quote {w : World} {mean : ExcName → Option Value} {mg mb : Str → Option Value} {news : List (Addr × Obj)} (v : Str) (t : Tok) :
  CbClaim PySem.Challenge.rw_tr0050_01.prog w (K w.params) q01 (looseW q01 loose01) mean mg mb 80 news [] (v.length ≤ 400000) [.str v t] (fun t => .str (quoteS v) t) := by
  k_fill
  dsimp only [CbClaim, CbLists, CbRet]
  intros
  rename_i hret
  have hlc := crlfS_len v
  refine wpAny_call ?_
  k_dflt cell_enter
  k_steps
  all_goals (exact hret _ _ _ (by assumption) (by assumption))
end Mine

end
section
open PySem PySem.W PyProof.Rows
set_option Elab.async false
set_option maxRecDepth 100000
set_option linter.unusedVariables false
namespace Mine
noncomputable def isB1 (c : Nat) : Bool := b1ents.any fun e => decide (e.1 = (c : Int))
noncomputable def b3F (c : Nat) : Option PySem.Str := (b3pairs.find? fun p => decide (p.1 = (c : Int))).map (·.2)
theorem b1_ok : (b1ents.all fun e => match e.2 with | .int i _ => e.1 == i && hashInt i == e.1 | _ => false) = true := by decide +kernel
theorem b3_ok : (b3ents.all fun e => match e.key with | .int i _ => e.hash == i && hashInt i == i | _ => false) = true := by decide +kernel
section
variable {prog : Program} {w : World} {A : Around} {E : Value → Shared → Prop} {s : Shared} {h₀ : Heap} {L : Addr} {m : Str → Option Value} {news : List (Addr × Obj)} {x : Str} {tx tr : Tok}
theorem b1_ent {e : Int × Value} (h : e ∈ b1ents) : ∃ i t, e = (i, .int i t) ∧ hashInt i = i := by
  have := List.all_eq_true.mp b1_ok e h
  obtain ⟨a, v⟩ := e
  cases v with
  | int i t =>
    simp only [Bool.and_eq_true, beq_iff_eq] at this
    exact ⟨i, t, by rw [this.1], this.2.trans this.1⟩
  | _ => exact Bool.noConfusion this
theorem b1_set (X : (K w.params).In h₀) (F : Fr h₀ L s.heap m) : s.heap.SetOf (intKind prog w) 88 (fun k => b1ents.any fun e => decide (e.1 = k)) b1ents.length := by
  refine ⟨o88 w.params, b1ents.toArray, 29, _, F.keep _ _ (X 88 _ rfl), ⟨rfl, rfl, rfl⟩, rfl, fun e he => ?_, fun k => ?_, by decide +kernel, by kernel_rfl, by rw [List.size_toArray]⟩
  · obtain ⟨i, t, rfl, hh⟩ := b1_ent he
    exact ⟨⟨i, by show (i == i) = true; simp, hh.symm⟩, rfl⟩
  · rw [List.any_eq_true]
    constructor
    · rintro ⟨e, he, hd⟩
      obtain ⟨i, t, rfl, hh⟩ := b1_ent he
      exact ⟨_, he, by show (i == k) = true; simpa using hd⟩
    · rintro ⟨e, he, hd⟩
      obtain ⟨i, t, rfl, hh⟩ := b1_ent he
      exact ⟨_, he, by have : (i == k) = true := hd; simpa using this⟩
theorem in_b1 {Q : Value → Shared → Prop} {c : Nat} {t : Tok} (X : (K w.params).In h₀) (F : Fr h₀ L s.heap m) (h : Q (.bool (isB1 c)) { s with toks := s.toks + 1 }) :
    wpAny (model prog w) A (compareOp .In (.int (c : Int) t) (.ref 88)) Q E s :=
  wpAny_inSet_of (knd := intKind prog w) (k := (c : Int)) (by show ((c : Int) == (c : Int)) = true; simp) rfl (b1_set X F) h

theorem gm_get {pl : Sem Bool} {Q : Value × List Value → Shared → Prop} (X : (K w.params).In h₀) (F : Fr h₀ L s.heap m) (h : Q (.builtin "dict.get", [.ref 99]) s) : wpAny (model prog w) A (getMethod (.ref 99) (PySem.Str.ofString "get") pl) Q E s :=
  (Looks.of_peek (X.keeps F.keep) (by kernel_rfl)).here h
theorem entsAt_find (k : Nat) (c : Int) : ∀ (t : Nat) (l : List (Int × PySem.Str)),
    (∀ y, ((l.find? fun p => decide (p.1 = c)).map (·.2)) = some y → ∃ u, ((entsAt k t l).find? fun e => Value.isInt c e.key).map (·.val) = some (.str y u)) ∧
    (((l.find? fun p => decide (p.1 = c)).map (·.2)) = none → ((entsAt k t l).find? fun e => Value.isInt c e.key).map (·.val) = none)
  | _, [] => ⟨fun y h => (by cases h), fun _ => rfl⟩
  | t, (i, x) :: r => by
    have ih := entsAt_find k c (t + k) r
    unfold entsAt
    rw [List.find?_cons, List.find?_cons]
    by_cases e : i = c
    · have e1 : decide (i = c) = true := by simpa using e
      have e2 : Value.isInt c (.int i t) = true := by show (i == c) = true; simpa using e
      simp only [e1, e2]
      exact ⟨fun y h => ⟨t + 1, by cases h; rfl⟩, fun h => by cases h⟩
    · have e1 : decide (i = c) = false := by simpa using e
      have e2 : Value.isInt c (.int i t) = false := by show (i == c) = false; simpa using e
      simp only [e1, e2]
      exact ih
theorem b3_find (c : Nat) : (∀ y, b3F c = some y → ∃ u, findBy Value.isInt b3ents.toArray (c : Int) = some (.str y u)) ∧ (b3F c = none → findBy Value.isInt b3ents.toArray (c : Int) = none) := by
  have hs : ∀ n, b3pairs = b3pairs.take n ++ b3pairs.drop n := fun n => (List.take_append_drop n b3pairs).symm
  have key : ∀ (n a b t u : Nat), (∀ y, (((b3pairs.take n ++ b3pairs.drop n).find? fun p => decide (p.1 = (c : Int))).map (·.2)) = some y → ∃ v, ((entsAt a t (b3pairs.take n) ++ entsAt b u (b3pairs.drop n)).find? fun e => Value.isInt c e.key).map (·.val) = some (.str y v)) ∧
      ((((b3pairs.take n ++ b3pairs.drop n).find? fun p => decide (p.1 = (c : Int))).map (·.2)) = none → ((entsAt a t (b3pairs.take n) ++ entsAt b u (b3pairs.drop n)).find? fun e => Value.isInt c e.key).map (·.val) = none) := by
    intro n a b t u
    have h1 := entsAt_find a c t (b3pairs.take n)
    have h2 := entsAt_find b c u (b3pairs.drop n)
    rw [List.find?_append, List.find?_append]
    cases hq : (b3pairs.take n).find? fun p => decide (p.1 = (c : Int)) with
    | some p =>
      obtain ⟨v, hv⟩ := h1.1 p.2 (by rw [hq]; rfl)
      cases hz : (entsAt a t (b3pairs.take n)).find? fun e => Value.isInt c e.key with
      | none => rw [hz] at hv; cases hv
      | some e =>
        rw [hz] at hv
        refine ⟨fun y h => ⟨v, ?_⟩, fun h => by cases h⟩
        cases h
        exact hv
    | none =>
      have hv := h1.2 (by rw [hq]; rfl)
      cases hz : (entsAt a t (b3pairs.take n)).find? fun e => Value.isInt c e.key with
      | some e => rw [hz] at hv; cases hv
      | none => exact h2
  unfold b3F b3ents findBy
  simp only [List.find?_toArray]
  have := key 646 3 2 469 2407
  rw [← hs 646] at this
  exact this
theorem b3_map (X : (K w.params).In h₀) (F : Fr h₀ L s.heap m) : s.heap.MapOf (intKind prog w) 99 (findBy Value.isInt b3ents.toArray) := by
  refine ⟨o99 w.params, b3ents.toArray, 650, F.keep _ _ (X 99 _ rfl), ⟨rfl, rfl, rfl⟩, rfl, fun e he => ?_, fun k => rfl⟩
  have := List.all_eq_true.mp b3_ok e (by simpa using he)
  cases hk : e.key with
  | int i t =>
    rw [hk] at this
    simp only [Bool.and_eq_true, beq_iff_eq] at this
    exact ⟨i, (by show (i == i) = true; simp), this.1.trans this.2.symm⟩
  | _ => rw [hk] at this; exact Bool.noConfusion this
theorem call_get {Q : Value → Shared → Prop} {c : Nat} {t : Tok} (X : (K w.params).In h₀) (F : Fr h₀ L s.heap m) (h1 : ∀ y u, b3F c = some y → Q (.str y u) { s with toks := s.toks + 1 }) (h2 : b3F c = none → Q .none { s with toks := s.toks + 1 }) :
    wpAny (model prog w) A (call (.builtin "dict.get") [.ref 99, .int (c : Int) t]) Q E s := by
  have M := b3_map (prog := prog) (s := s) X F
  refine call_meetsIn PySem.F.slot_dict_get ⟨_, F.keep _ _ (X 99 _ rfl), rfl⟩ PySem.F.entry_dict_get (PySem.F.args_dict_get_2 _ _) (meets_dict_get (knd := intKind prog w) (k := (c : Int)) 99 (by show ((c : Int) == (c : Int)) = true; simp) rfl) ⟨_, M, ?_⟩
  cases hb : b3F c with
  | some y =>
    obtain ⟨u, hu⟩ := (b3_find c).1 y hb
    rw [hu]
    exact h1 y u hb
  | none =>
    rw [(b3_find c).2 hb]
    exact h2 hb
end
end Mine

end
section
open PySem PySem.W PyProof.Rows
set_option Elab.async false
set_option maxRecDepth 100000
set_option linter.unusedVariables false
namespace Mine
noncomputable def mapF (v : Str) : Str := (b3F (v.cps.getD 0 0)).getD (Txt.lower v)
local macro_rules | `(tactic| walk_at "getMethod ref") => `(tactic| (k_here; k_dflt (refine gm_get (by k_asm) (by k_asm) ?_)))
local macro_rules | `(tactic| walk_at "compareOp In") => `(tactic| (k_here; k_dflt (refine in_b1 (by k_asm) (by k_asm) ?_)))
local macro_rules | `(tactic| walk_at "call builtin:dict.get") => `(tactic| (k_here; k_dflt (refine call_get (by k_asm) (by k_asm) (fun y' u' hy' => ?_) (fun hn' => ?_))))
set_option maxHeartbeats 8000000 in
theorem inb1 {w : World} {mean : ExcName → Option Value} {mg mb : Str → Option Value} {news : List (Addr × Obj)} (v : Str) (t : Tok) :
  CbClaim PySem.Challenge.rw_tr0050_01.prog w (K w.params) q01 (looseW q01 loose01) mean mg mb 98 news [] (v.length = 1) [.str v t] (fun t => .bool (isB1 (v.cps.getD 0 0))) := by
  k_fill
  dsimp only [CbClaim, CbLists, CbRet]
  intros
  rename_i hret
  refine wpAny_call ?_
  k_dflt cell_enter
  k_steps
  all_goals (exact hret 0 _ _ (by assumption) (by assumption))
set_option maxHeartbeats 8000000 in
theorem mapb3 {w : World} {mean : ExcName → Option Value} {mg mb : Str → Option Value} {news : List (Addr × Obj)} (v : Str) (t : Tok) :
  CbClaim PySem.Challenge.rw_tr0050_01.prog w (K w.params) q01 (looseW q01 loose01) mean mg mb 144 news [] (v.length = 1 ∧ (Txt.lower v).length ≤ 1000) [.str v t] (fun t => .str (mapF v) t) := by
  k_fill
  dsimp only [CbClaim, CbLists, CbRet]
  intros
  rename_i hret
  refine wpAny_call ?_
  k_dflt cell_enter
  k_steps
  · rename b3F _ = some _ => hy
    have e := congrArg (fun o => Option.getD o (Txt.lower v)) hy
    rw [show mapF v = _ from e] at hret
    exact hret _ _ _ (by assumption) (by assumption)
  · rename b3F _ = none => hy
    have e := congrArg (fun o => Option.getD o (Txt.lower v)) hy
    rw [show mapF v = _ from e] at hret
    exact hret _ _ _ (by assumption) (by assumption)
end Mine

end
section
open PySem PySem.W PyProof.Rows
set_option Elab.async false
set_option maxRecDepth 100000
set_option linter.unusedVariables false
namespace Mine
noncomputable def Stop (P : Prop) : Prop := P
theorem Stop.intro {P : Prop} (h : Stop P) : P := h
local macro_rules | `(tactic| walk_at "exec") => `(tactic| ((with_reducible show wpAny _ _ (exec (Stmt.While _ _ _ _) _) _ _ _); with_reducible refine Stop.intro ?_))
end Mine

end
section
open PySem PySem.W PyProof.Rows
set_option Elab.async false
set_option maxRecDepth 100000
set_option linter.unusedVariables false
namespace Mine
theorem ints11 (a0 a1 a2 a3 a4 a5 a6 a7 a8 a9 a10 : Int) (t0 t1 t2 t3 t4 t5 t6 t7 t8 t9 t10 : Tok) : IntsAre [.int a0 t0, .int a1 t1, .int a2 t2, .int a3 t3, .int a4 t4, .int a5 t5, .int a6 t6, .int a7 t7, .int a8 t8, .int a9 t9, .int a10 t10] [a0, a1, a2, a3, a4, a5, a6, a7, a8, a9, a10] :=
  .cons _ _ (.cons _ _ (.cons _ _ (.cons _ _ (.cons _ _ (.cons _ _ (.cons _ _ (.cons _ _ (.cons _ _ (.cons _ _ (.cons _ _ .nil))))))))))
noncomputable def unL : List Int := [173, 847, 6150, 6155, 6156, 6157, 8203, 8204, 8205, 8288, 65279] ++ rangeInts 65024 1 ((65040 : Int) - 65024).toNat
noncomputable def unC (k : Int) : Nat := (unL.getD (Int.fmod k 27).toNat 0).toNat
theorem unL_len : unL.length = 27 := by decide +kernel
theorem unL_bound : ∀ n : Nat, 0 ≤ unL.getD n 0 ∧ unL.getD n 0 ≤ 1114111 := by
  intro n
  have h : (unL.all fun i => decide (0 ≤ i) && decide (i ≤ 1114111)) = true := by decide +kernel
  rw [List.getD_eq_getElem?_getD]
  cases hg : unL[n]? with
  | none => exact ⟨Int.le_refl _, by decide⟩
  | some i =>
    have := List.all_eq_true.mp h i (List.mem_of_getElem? hg)
    simpa using this
local macro_rules | `(tactic| walk_at "binaryOp Add ref ref") => `(tactic| (k_here; with_reducible refine Stop.intro ?_))
local macro_rules | `(tactic| walk_at "call builtin:chr") => `(tactic| (k_here; k_dflt (refine chr_of_range (i := unL.getD _ 0) (unL_bound _).1 (unL_bound _).2 ?_)))
set_option maxHeartbeats 8000000 in
theorem unseen {w : World} {mean : ExcName → Option Value} {mg mb : Str → Option Value} {news : List (Addr × Obj)} (k : Int) (t : Tok) :
  CbClaim PySem.Challenge.rw_tr0050_01.prog w (K w.params) q01 (looseW q01 loose01) mean mg mb 151 news [] True [.int k t] (fun t => .str (Str.mk #[unC k]) t) := by
  k_fill
  dsimp only [CbClaim, CbRet, CbLists]
  intros
  rename_i hret
  refine wpAny_call ?_
  k_dflt cell_enter
  k_steps
  unfold Stop
  k_here
  (rename NewPlain _ _ _ _ => NP'); k_dflt (refine' add_arrays_ints (its := _) (its2 := _) ?f ?n (News.isList ?n2 ?mem) ?hb ?hi ?hc ?_ ?sz; (case f => k_asm); (case n => k_asm); (case n2 => assumption); (case mem => exact List.Mem.head _); (case hb => assumption); (case hi => exact ints11 _ _ _ _ _ _ _ _ _ _ _ _ _ _ _ _ _ _ _ _ _ _); (case hc => exact IntsAre.ofCarried (by assumption)); (case sz => decide +kernel); intro h' F' N' hi')
  k_steps
  exact hret _ _ _ (by assumption) (by refine' cb_drop ?cbN ?cbS; (case cbN => assumption); (case cbS => kcj_all))
end Mine

end
section
open PySem PySem.W PySem.Spec PySem.Calls PyProof.Rows PyProof.Rows.LCg PyProof.Rows.LCt
set_option Elab.async false
set_option maxRecDepth 100000
set_option linter.unusedVariables false
set_option maxHeartbeats 2000000
namespace Mine
/-- a comprehension over a text with one test: a turn's end -/
noncomputable def TcEl (news : List (Addr × Obj)) (g : Option PySem.Str) (y : Value) (news' : List (Addr × Obj)) : Prop := news' = news ∧ ∃ (r : PySem.Str) (t : Tok), g = some r ∧ y = .str r t
noncomputable def TcNo (news : List (Addr × Obj)) (g : Option PySem.Str) (news' : List (Addr × Obj)) : Prop := news' = news ∧ g = none
theorem str_snoc {y : PySem.Str} {t : Tok} : ∀ {vs : List Value} {ys : List PySem.Str}, StrsAre vs ys → StrsAre (vs ++ [.str y t]) (ys ++ [y])
  | _, _, .nil => .cons _ _ .nil
  | _, _, .cons a b h => .cons a b (str_snoc h)
noncomputable def TcSrc (prog : Program) (w : World) (A : Around) (h₀ : Heap) (L : Addr) (m : PySem.Str → Option Value) (env : Env) (ct elt : Expr) (x : PySem.Str) (scope : Scope) (cl : List (PySem.Str × Addr)) (Fin : Shared → List Value → List (Addr × Obj) → Prop) (xv : Value) (s₁ : Shared) : Prop :=
  ∃ v t news, xv = .str v t ∧ A.handled = none ∧ Fr h₀ L s₁.heap m ∧ News h₀ L s₁.heap news ∧ v.cps.size ≤ sizeLine ∧
    ∀ s₂ : Shared, (∃ h, s₂ = { s₁ with heap := h }) → CompRestT prog w A h₀ L m env ct elt x scope cl s₂ (fun _ => True) (SignAt v) (Fin s₂) v.cps.size 0 [] news
section
variable {prog : Program} {w : World} {A : Around} {E : Value → Shared → Prop} {s : Shared} {h₀ : Heap} {L : Addr} {m : PySem.Str → Option Value} {env : Env}
theorem tc_comp {ct elt iter : Expr} {x : PySem.Str} {px : Pos} {scope : Scope} {cl : List (PySem.Str × Addr)} {pos : Pos} {Q : Value → Shared → Prop} (F₀ : Fr h₀ L s.heap m)
    (hclos : closureFor scope env = pure cl) (hcell : ∀ y ∈ scope.names, y.2 ≠ .cell) (hkind : scope.kind = .function)
    (hnames : ∀ y ∈ scope.names, y.2 = .local → scope.names.lookup y.1 = some .local) (hx : scope.names.lookup x = some .local)
    (h : wpAny (model prog w) A (eval iter env) (TcSrc prog w A h₀ L m env ct elt x scope cl (fun s₂ => FinE h₀ L m s₂ Q)) E s)
    (hs : ∀ x, foldedSetIterable iter env x = pure x := by intro _; rfl) :
    wpAny (model prog w) A (eval (.ListComp elt [⟨.Name x px, iter, [ct], 0⟩] scope pos) env) Q E s := by
  rw [eval_ListComp]
  refine wpAny_comprehension_free (use := none) rfl hs hclos hkind hnames (wpAny_mono h (fun xv s₁ h₁ => ?_) fun _ _ e => e)
  obtain ⟨v, t, news, rfl, hh, F, N, hsz, R⟩ := h₁
  cases ha : v.cps.all (· < 128)
  · refine wpAny_pyIter_wide ha ?_
    refine block_T (S := fun _ => True) (Walks.strWide hh _ v t) hsz (fun i h st => by obtain ⟨o, e, _⟩ := st; exact ⟨o, e⟩)
      (fun i h h' o nw st e e' _ _ _ => by obtain ⟨o', e2, r⟩ := st; rw [e] at e2; cases e2; exact ⟨_, e', r⟩) hcell hkind hx ⟨_, Heap.get?_push_size _ rfl, rfl, rfl⟩ (fun b hb => ?_)
      (F.keeps fun _ _ e => Heap.get?_push_of_some _ e) (N.grown fun _ _ e => Heap.get?_push_of_some _ e) (Nat.ne_of_lt F.ns.lt) (next_is_new F) (fun p hp => Nat.ne_of_lt (Heap.lt_size (N p hp).1)) trivial (R _ ⟨_, rfl⟩) ?_
    · rw [List.mem_singleton.mp hb]
      show s₁.heap.objs.size < (s₁.heap.push _).objs.size
      rw [Heap.size_push]; exact Nat.lt_succ_self _
    · intro D C h tk m' ys news' F' N' o1 hn hC₀ hD₀ hCL hDL hCD offC fin
      refine ⟨m', hn, fun h'' hs'' => fin D h'' tk (F'.change hs'' hCL hC₀) (fun p hp => ?_) o1⟩
      refine ⟨hs''.extBut _ _ ?_ (N' p hp).1, (N' p hp).2⟩
      rcases List.mem_cons.mp hp with rfl | hp
      · exact Ne.symm hCD
      · exact offC p hp
  · refine wpAny_pyIter_ascii ha ?_
    refine block_T (S := fun _ => True) (Walks.strAscii hh _ v t) hsz (fun i h st => by obtain ⟨o, e, _⟩ := st; exact ⟨o, e⟩)
      (fun i h h' o nw st e e' _ _ _ => by obtain ⟨o', e2, r⟩ := st; rw [e] at e2; cases e2; exact ⟨_, e', r⟩) hcell hkind hx ⟨_, Heap.get?_push_size _ rfl, rfl, rfl⟩ (fun b hb => ?_)
      (F.keeps fun _ _ e => Heap.get?_push_of_some _ e) (N.grown fun _ _ e => Heap.get?_push_of_some _ e) (Nat.ne_of_lt F.ns.lt) (next_is_new F) (fun p hp => Nat.ne_of_lt (Heap.lt_size (N p hp).1)) trivial (R _ ⟨_, rfl⟩) ?_
    · rw [List.mem_singleton.mp hb]
      show s₁.heap.objs.size < (s₁.heap.push _).objs.size
      rw [Heap.size_push]; exact Nat.lt_succ_self _
    · intro D C h tk m' ys news' F' N' o1 hn hC₀ hD₀ hCL hDL hCD offC fin
      refine ⟨m', hn, fun h'' hs'' => fin D h'' tk (F'.change hs'' hCL hC₀) (fun p hp => ?_) o1⟩
      refine ⟨hs''.extBut _ _ ?_ (N' p hp).1, (N' p hp).2⟩
      rcases List.mem_cons.mp hp with rfl | hp
      · exact Ne.symm hCD
      · exact offC p hp
theorem tc_rest {ct elt : Expr} {x : PySem.Str} {scope : Scope} {cl : List (PySem.Str × Addr)} {v : PySem.Str} {Fin : List Value → List (Addr × Obj) → Prop} {news : List (Addr × Obj)} (G : Nat → Option PySem.Str)
    (turn : ∀ c t I oI C oC D m₂ ys h tk (E' : Value → Shared → Prop), c ∈ v.cps.toList → NsObj oC m₂ → m₂ x = some (.str ⟨#[c]⟩ t) → Fr h₀ L h m → News h₀ L h ((I, oI) :: (C, oC) :: (D, lst ys) :: news) → Off3 I C D news → ((@Ne Nat I C) ∧ (@Ne Nat I D) ∧ (@Ne Nat C D)) →
      wpAny (model prog w) A (isTrue ct (compEnvC scope cl C env) (eval ct (compEnvC scope cl C env))) (fun b s' => if b = true then wpAny (model prog w) A (eval elt (compEnvC scope cl C env)) (CompEnd h₀ L m { s with heap := h, toks := tk } I oI C oC D (lst ys) (fun _ => True) (fun y news' => TcEl news (G c) y news')) E' s'
        else CompEnd h₀ L m { s with heap := h, toks := tk } I oI C oC D (lst ys) (fun _ => True) (fun _ news' => TcNo news (G c) news') Value.none s') E' { s with heap := h, toks := tk })
    (fin : ∀ ys, StrsAre ys (v.cps.toList.filterMap G) → ys.length ≤ v.cps.size → Fin ys news) : CompRestT prog w A h₀ L m env ct elt x scope cl s (fun _ => True) (SignAt v) Fin v.cps.size 0 [] news := by
  have key : ∀ (j i : Nat) (ys : List Value), i + j = v.cps.size → ys.length ≤ i → StrsAre ys ((v.cps.toList.take i).filterMap G) → CompRestT prog w A h₀ L m env ct elt x scope cl s (fun _ => True) (SignAt v) Fin j i ys news := by
    intro j
    induction j with
    | zero =>
      intro i ys hi hl hy
      have e : i = v.cps.toList.length := by rw [Array.length_toList]; omega
      subst e
      rw [List.take_length] at hy
      exact CompRestT.zero (fin ys hy (by rw [Array.length_toList] at hl; exact hl))
    | succ j ih =>
      intro i ys hi hl hy
      refine CompRestT.succ ?_
      intro v' I oI C oC D m₂ h tk E' hv hC hx F N off ne
      obtain ⟨c, t, hk, hv'⟩ := hv
      rw [hv'] at hx
      have hk' : v.cps.toList[i]? = some c := by rw [Array.getElem?_toList]; exact hk
      have hs : (v.cps.toList.take (i + 1)).filterMap G = (v.cps.toList.take i).filterMap G ++ (match G c with | some r => [r] | none => []) := by
        rw [List.take_add_one, hk']
        simp only [Option.toList_some, List.filterMap_append]
        congr 1
        cases hg : G c with
        | none => simp [hg]
        | some r => simp [hg]
      refine wpAny_mono (turn c t I oI C oC D m₂ ys h tk E' (List.mem_of_getElem? hk') hC hx F N off ne) (fun b s₂ hq => ?_) fun _ _ e => e
      cases b with
      | true =>
        simp only [if_true] at hq ⊢
        refine wpAny_mono hq (fun y s₃ hr => ?_) fun _ _ e => e
        obtain ⟨h', tk', nw, e, F', N', off', hS, hn, r, t', hg, hy'⟩ := hr
        rw [hn] at N' off'
        refine ⟨h', tk', news, e, F', N', off', hS, ?_⟩
        rw [hy']
        refine ih (i + 1) _ (by omega) (by rw [List.length_append]; simp; omega) ?_
        rw [hs, hg]
        exact str_snoc hy
      | false =>
        simp only [Bool.false_eq_true, if_false] at hq ⊢
        obtain ⟨h', tk', nw, e, F', N', off', hS, hn, hg⟩ := hq
        rw [hn] at N' off'
        refine ⟨h', tk', news, e, F', N', off', hS, ih (i + 1) _ (by omega) (by omega) ?_⟩
        rw [hs, hg, List.append_nil]
        exact hy
  exact key v.cps.size 0 [] (by omega) (Nat.le_refl _) (by simpa using StrsAre.nil)
end
end Mine

end
section
set_option Elab.async false
set_option maxRecDepth 100000
set_option linter.unusedVariables false
namespace Mine
/-- an item: its kind (0 quote, 1 unseen, 2 dot, 3 return, 4 feed, 5 lasting), its code, its fold -/
noncomputable abbrev It := Nat × Nat × List Nat
structure PlainF (f : List Nat) : Prop where
  ne : f ≠ []
  no : ∀ c ∈ f, c ≠ 34 ∧ c ≠ 10 ∧ c ≠ 13
  hd : f.headD 0 ≠ 46
structure PrepL (pL : Nat → List Nat) : Prop where
  q : pL 34 = [34]
  d : pL 46 = [46]
  r : pL 13 = [13]
  n : pL 10 = [10]
noncomputable def OkIt (pL : Nat → List Nat) (i : It) : Prop :=
  (i.1 = 0 ∧ i.2.1 = 34) ∨ (i.1 = 1 ∧ pL i.2.1 = [] ∧ PlainF [i.2.1]) ∨ (i.1 = 2 ∧ i.2.1 = 46) ∨ (i.1 = 3 ∧ i.2.1 = 13) ∨ (i.1 = 4 ∧ i.2.1 = 10) ∨ (i.1 = 5 ∧ pL i.2.1 = i.2.2 ∧ PlainF [i.2.1] ∧ PlainF i.2.2)
noncomputable def tx (x : List It) : List Nat := x.map fun i => i.2.1
theorem tx_cons (i : It) (x : List It) : tx (i :: x) = i.2.1 :: tx x := rfl
/-- the walk -/
noncomputable def walkL (br bs : Bool) : Nat → Bool → List It → List Nat
  | _, _, [] => []
  | ah, half, i :: x =>
    if i.1 = 1 then (if half && br then [] else walkL br bs (if bs then 1 else ah) half x)
    else if i.1 = 0 then (if half then 34 :: walkL br bs 0 false x else walkL br bs 0 true x)
    else if half then []
    else if i.1 = 3 ∨ (i.1 = 4 ∧ ah ≠ 3) then 13 :: 10 :: walkL br bs i.1 false x
    else if i.1 = 2 ∧ (ah = 3 ∨ ah = 4) then 46 :: 46 :: walkL br bs i.1 false x
    else if i.1 ≠ 4 then (if i.1 = 5 then i.2.2 else [i.2.1]) ++ walkL br bs i.1 false x
    else walkL br bs i.1 false x
noncomputable def prp (pL : Nat → List Nat) (l : List Nat) : List Nat := l.flatMap pL
theorem prp_nil (pL : Nat → List Nat) : prp pL [] = [] := rfl
theorem prp_cons (pL : Nat → List Nat) (c : Nat) (l : List Nat) : prp pL (c :: l) = pL c ++ prp pL l := List.flatMap_cons
theorem prp_app (pL : Nat → List Nat) (a b : List Nat) : prp pL (a ++ b) = prp pL a ++ prp pL b := List.flatMap_append
theorem crlf_n (b : Bool) (l : List Nat) : crlf b (10 :: l) = if b = true then crlf false l else 13 :: 10 :: crlf false l := rfl
theorem crlf_r (b : Bool) (l : List Nat) : crlf b (13 :: l) = 13 :: 10 :: crlf true l := rfl
theorem crlf_c (b : Bool) {c : Nat} (l : List Nat) (h1 : c ≠ 10) (h2 : c ≠ 13) : crlf b (c :: l) = c :: crlf false l := by
  show (if c = 10 then _ else if c = 13 then _ else _) = _
  rw [if_neg h1, if_neg h2]
theorem dots_c {b : Bool} {c : Nat} (l : List Nat) (h1 : c ≠ 10) (h2 : b = false ∨ c ≠ 46) : dots b (c :: l) = c :: dots false l := by
  show (if b = true ∧ c = 46 then [46, 46] else [c]) ++ dots (c == 10) l = _
  rw [if_neg (by rintro ⟨h, h'⟩; rcases h2 with e | e; (rw [e] at h; cases h); exact e h'), show (c == 10) = false from by simpa using h1]
  rfl
theorem dots_n (b : Bool) (l : List Nat) : dots b (10 :: l) = 10 :: dots true l := by
  show (if b = true ∧ 10 = 46 then [46, 46] else [10]) ++ dots (10 == 10) l = _
  rw [if_neg (by rintro ⟨_, h⟩; cases h)]
  rfl
theorem dots_d (l : List Nat) : dots true (46 :: l) = 46 :: 46 :: dots false l := rfl
theorem unq_q (l : List Nat) : unq false (34 :: l) = unq true l := rfl
theorem unq_qq (l : List Nat) : unq true (34 :: l) = 34 :: unq false l := rfl
theorem unq_c {c : Nat} (l : List Nat) (h : c ≠ 34) : unq false (c :: l) = c :: unq false l := by rw [unq_f, if_neg h]
theorem unq_s {c : Nat} (l : List Nat) (h : c ≠ 34) : unq true (c :: l) = [] := by rw [unq_t, if_neg h]
theorem crlf_f {f : List Nat} (l : List Nat) : ∀ (b : Bool), f ≠ [] → (∀ c ∈ f, c ≠ 34 ∧ c ≠ 10 ∧ c ≠ 13) → crlf b (f ++ l) = f ++ crlf false l := by
  induction f with
  | nil => intro b h; exact absurd rfl h
  | cons c f ih =>
    intro b _ hn
    have hc := hn c List.mem_cons_self
    rw [List.cons_append, crlf_c _ _ hc.2.1 hc.2.2]
    cases f with
    | nil => rfl
    | cons d f => rw [ih false (by simp) fun e he => hn e (List.mem_cons_of_mem _ he)]; rfl
theorem dots_fF {f : List Nat} (l : List Nat) : (∀ c ∈ f, c ≠ 34 ∧ c ≠ 10 ∧ c ≠ 13) → dots false (f ++ l) = f ++ dots false l := by
  induction f with
  | nil => intro _; rfl
  | cons c f ih =>
    intro hn
    rw [List.cons_append, dots_c _ (hn c List.mem_cons_self).2.1 (.inl rfl), ih fun e he => hn e (List.mem_cons_of_mem _ he)]
    rfl
theorem dots_f {f : List Nat} (l : List Nat) (b : Bool) (h : PlainF f) : dots b (f ++ l) = f ++ dots false l := by
  obtain ⟨ne, no, hd⟩ := h
  cases f with
  | nil => exact absurd rfl ne
  | cons c f =>
    rw [List.cons_append, dots_c _ (no c List.mem_cons_self).2.1 (.inr hd), dots_fF _ fun e he => no e (List.mem_cons_of_mem _ he)]
    rfl
theorem unq_fF {f : List Nat} (l : List Nat) : (∀ c ∈ f, c ≠ 34 ∧ c ≠ 10 ∧ c ≠ 13) → unq false (f ++ l) = f ++ unq false l := by
  induction f with
  | nil => intro _; rfl
  | cons c f ih =>
    intro hn
    rw [List.cons_append, unq_c _ (hn c List.mem_cons_self).1, ih fun e he => hn e (List.mem_cons_of_mem _ he)]
    rfl
theorem unq_fT {f : List Nat} (l : List Nat) (h : PlainF f) : unq true (f ++ l) = [] := by
  obtain ⟨ne, no, hd⟩ := h
  cases f with
  | nil => exact absurd rfl ne
  | cons c f => rw [List.cons_append, unq_s _ (no c List.mem_cons_self).1]
noncomputable def isNL (ah : Nat) : Bool := ah == 3 || ah == 4
section
variable {pL : Nat → List Nat} (P : PrepL pL)
include P
/-- read, send, prepare -/
theorem ord1 : ∀ (x : List It) (ah : Nat) (half b r : Bool), (∀ i ∈ x, OkIt pL i) → (half = false → b = isNL ah ∧ r = (ah == 3)) →
    prp pL (dots b (crlf r (unq half (tx x)))) = walkL true true ah half x
  | [], ah, half, b, r, _, _ => by cases half <;> rfl
  | (k, c, f) :: x, ah, half, b, r, h, hs => by
    have hx : ∀ i ∈ x, OkIt pL i := fun i hi => h i (List.mem_cons_of_mem _ hi)
    have hi := h _ List.mem_cons_self
    unfold OkIt at hi
    simp only at hi
    rw [tx_cons]
    unfold walkL
    dsimp only
    rcases hi with ⟨rfl, rfl⟩ | ⟨rfl, hp, hf⟩ | ⟨rfl, rfl⟩ | ⟨rfl, rfl⟩ | ⟨rfl, rfl⟩ | ⟨rfl, rfl, hf1, hf⟩
    · cases half with
      | false => simp only [unq_q]; simpa using ord1 x 0 true b r hx (by simp)
      | true =>
        rw [unq_qq, crlf_c _ _ (by decide) (by decide), dots_c _ (by decide) (.inr (by decide)), prp_cons, P.q]
        simpa using ord1 x 0 false false false hx (by simp [isNL])
    · cases half with
      | true => rw [unq_s _ (hf.no c (by simp)).1]; simp; rfl
      | false =>
        have hc := hf.no c (by simp)
        rw [unq_c _ hc.1, crlf_c _ _ hc.2.1 hc.2.2, dots_c _ hc.2.1 (.inr hf.hd), prp_cons, hp]
        simpa using ord1 x 1 false false false hx (by simp [isNL])
    · cases half with
      | true => rw [unq_s _ (by decide)]; simp; rfl
      | false =>
        obtain ⟨rfl, rfl⟩ := hs rfl
        rw [unq_c _ (by decide), crlf_c _ _ (by decide) (by decide)]
        by_cases hn : ah = 3 ∨ ah = 4
        · have e : isNL ah = true := by unfold isNL; simpa using hn
          rw [e, dots_d, prp_cons, prp_cons, P.d]
          simpa [hn] using ord1 x 2 false false false hx (by simp [isNL])
        · have e : isNL ah = false := by unfold isNL; simpa using hn
          rw [e, dots_c _ (by decide) (.inl rfl), prp_cons, P.d]
          simpa [hn] using ord1 x 2 false false false hx (by simp [isNL])
    · cases half with
      | true => rw [unq_s _ (by decide)]; simp; rfl
      | false =>
        rw [unq_c _ (by decide), crlf_r, dots_c _ (by decide) (.inr (by decide)), dots_n, prp_cons, prp_cons, P.r, P.n]
        simpa using ord1 x 3 false true true hx (by simp [isNL])
    · cases half with
      | true => rw [unq_s _ (by decide)]; simp; rfl
      | false =>
        obtain ⟨rfl, rfl⟩ := hs rfl
        rw [unq_c _ (by decide), crlf_n]
        by_cases hn : ah = 3
        · subst hn
          simpa [isNL] using ord1 x 4 false true false hx (by simp [isNL])
        · have e : (ah == 3) = false := by simpa using hn
          rw [e, if_neg (by decide), dots_c _ (by decide) (.inr (by decide)), dots_n, prp_cons, prp_cons, P.r, P.n]
          simpa [hn] using ord1 x 4 false true false hx (by simp [isNL])
    · cases half with
      | true => rw [unq_s _ (hf1.no c (by simp)).1]; simp; rfl
      | false =>
        have hc := hf1.no c (by simp)
        rw [unq_c _ hc.1, crlf_c _ _ hc.2.1 hc.2.2, dots_c _ hc.2.1 (.inr hf1.hd), prp_cons]
        simpa using ord1 x 5 false false false hx (by simp [isNL])
/-- read, prepare, send -/
theorem ord2 : ∀ (x : List It) (ah : Nat) (half b r : Bool), (∀ i ∈ x, OkIt pL i) → (half = false → b = isNL ah ∧ r = (ah == 3)) →
    dots b (crlf r (prp pL (unq half (tx x)))) = walkL true false ah half x
  | [], ah, half, b, r, _, _ => by cases half <;> rfl
  | (k, c, f) :: x, ah, half, b, r, h, hs => by
    have hx : ∀ i ∈ x, OkIt pL i := fun i hi => h i (List.mem_cons_of_mem _ hi)
    have hi := h _ List.mem_cons_self
    unfold OkIt at hi
    simp only at hi
    rw [tx_cons]
    unfold walkL
    dsimp only
    rcases hi with ⟨rfl, rfl⟩ | ⟨rfl, hp, hf⟩ | ⟨rfl, rfl⟩ | ⟨rfl, rfl⟩ | ⟨rfl, rfl⟩ | ⟨rfl, rfl, hf1, hf⟩
    · cases half with
      | false => simp only [unq_q]; simpa using ord2 x 0 true b r hx (by simp)
      | true =>
        rw [unq_qq, prp_cons, P.q, List.singleton_append, crlf_c _ _ (by decide) (by decide), dots_c _ (by decide) (.inr (by decide))]
        simpa using ord2 x 0 false false false hx (by simp [isNL])
    · cases half with
      | true => rw [unq_s _ (hf.no c (by simp)).1]; simp; rfl
      | false =>
        rw [unq_c _ (hf.no c (by simp)).1, prp_cons, hp]
        simpa using ord2 x ah false b r hx hs
    · cases half with
      | true => rw [unq_s _ (by decide)]; simp; rfl
      | false =>
        obtain ⟨rfl, rfl⟩ := hs rfl
        rw [unq_c _ (by decide), prp_cons, P.d, List.singleton_append, crlf_c _ _ (by decide) (by decide)]
        by_cases hn : ah = 3 ∨ ah = 4
        · have e : isNL ah = true := by unfold isNL; simpa using hn
          rw [e, dots_d]
          simpa [hn] using ord2 x 2 false false false hx (by simp [isNL])
        · have e : isNL ah = false := by unfold isNL; simpa using hn
          rw [e, dots_c _ (by decide) (.inl rfl)]
          simpa [hn] using ord2 x 2 false false false hx (by simp [isNL])
    · cases half with
      | true => rw [unq_s _ (by decide)]; simp; rfl
      | false =>
        rw [unq_c _ (by decide), prp_cons, P.r, List.singleton_append, crlf_r, dots_c _ (by decide) (.inr (by decide)), dots_n]
        simpa using ord2 x 3 false true true hx (by simp [isNL])
    · cases half with
      | true => rw [unq_s _ (by decide)]; simp; rfl
      | false =>
        obtain ⟨rfl, rfl⟩ := hs rfl
        rw [unq_c _ (by decide), prp_cons, P.n, List.singleton_append, crlf_n]
        by_cases hn : ah = 3
        · subst hn
          simpa [isNL] using ord2 x 4 false true false hx (by simp [isNL])
        · have e : (ah == 3) = false := by simpa using hn
          rw [e, if_neg (by decide), dots_c _ (by decide) (.inr (by decide)), dots_n]
          simpa [hn] using ord2 x 4 false true false hx (by simp [isNL])
    · cases half with
      | true => rw [unq_s _ (hf1.no c (by simp)).1]; simp; rfl
      | false =>
        rw [unq_c _ (hf1.no c (by simp)).1, prp_cons, crlf_f _ _ hf.ne hf.no, dots_f _ _ hf]
        simpa using ord2 x 5 false false false hx (by simp [isNL])
/-- send, read, prepare -/
theorem ord3 : ∀ (x : List It) (ah : Nat) (half b r : Bool), (∀ i ∈ x, OkIt pL i) → ((b = isNL ah ∧ r = (ah == 3)) ∧ (half = true → ah ≠ 3)) →
    prp pL (unq half (dots b (crlf r (tx x)))) = walkL true true ah half x
  | [], ah, half, b, r, _, _ => by cases half <;> rfl
  | (k, c, f) :: x, ah, half, b, r, h, hs => by
    have hx : ∀ i ∈ x, OkIt pL i := fun i hi => h i (List.mem_cons_of_mem _ hi)
    have hi := h _ List.mem_cons_self
    unfold OkIt at hi
    simp only at hi
    rw [tx_cons]
    unfold walkL
    dsimp only
    rcases hi with ⟨rfl, rfl⟩ | ⟨rfl, hp, hf⟩ | ⟨rfl, rfl⟩ | ⟨rfl, rfl⟩ | ⟨rfl, rfl⟩ | ⟨rfl, rfl, hf1, hf⟩
    · obtain ⟨⟨rfl, rfl⟩, hh⟩ := hs
      rw [crlf_c _ _ (by decide) (by decide), dots_c _ (by decide) (.inr (by decide))]
      cases half with
      | false => rw [unq_q]; simpa using ord3 x 0 true false false hx (by simp [isNL])
      | true => rw [unq_qq, prp_cons, P.q]; simpa using ord3 x 0 false false false hx (by simp [isNL])
    · have hc := hf.no c (by simp)
      rw [crlf_c _ _ hc.2.1 hc.2.2, dots_c _ hc.2.1 (.inr hf.hd)]
      cases half with
      | true => rw [unq_s _ hc.1]; simp; rfl
      | false => rw [unq_c _ hc.1, prp_cons, hp]; simpa using ord3 x 1 false false false hx (by simp [isNL])
    · obtain ⟨⟨rfl, rfl⟩, hh⟩ := hs
      rw [crlf_c _ _ (by decide) (by decide)]
      by_cases hn : ah = 3 ∨ ah = 4
      · have e : isNL ah = true := by unfold isNL; simpa using hn
        rw [e, dots_d]
        cases half with
        | true => rw [unq_s _ (by decide)]; simp; rfl
        | false => rw [unq_c _ (by decide), unq_c _ (by decide), prp_cons, prp_cons, P.d]; simpa [hn] using ord3 x 2 false false false hx (by simp [isNL])
      · have e : isNL ah = false := by unfold isNL; simpa using hn
        rw [e, dots_c _ (by decide) (.inl rfl)]
        cases half with
        | true => rw [unq_s _ (by decide)]; simp; rfl
        | false => rw [unq_c _ (by decide), prp_cons, P.d]; simpa [hn] using ord3 x 2 false false false hx (by simp [isNL])
    · rw [crlf_r, dots_c _ (by decide) (.inr (by decide)), dots_n]
      cases half with
      | true => rw [unq_s _ (by decide)]; simp; rfl
      | false => rw [unq_c _ (by decide), unq_c _ (by decide), prp_cons, prp_cons, P.r, P.n]; simpa using ord3 x 3 false true true hx (by simp [isNL])
    · obtain ⟨⟨rfl, rfl⟩, hh⟩ := hs
      rw [crlf_n]
      by_cases hn : ah = 3
      · subst hn
        cases half with
        | true => exact absurd rfl (hh rfl)
        | false => simpa [isNL] using ord3 x 4 false true false hx (by simp [isNL])
      · have e : (ah == 3) = false := by simpa using hn
        rw [e, if_neg (by decide), dots_c _ (by decide) (.inr (by decide)), dots_n]
        cases half with
        | true => rw [unq_s _ (by decide)]; simp; rfl
        | false => rw [unq_c _ (by decide), unq_c _ (by decide), prp_cons, prp_cons, P.r, P.n]; simpa [hn] using ord3 x 4 false true false hx (by simp [isNL])
    · have hc := hf1.no c (by simp)
      rw [crlf_c _ _ hc.2.1 hc.2.2, dots_c _ hc.2.1 (.inr hf1.hd)]
      cases half with
      | true => rw [unq_s _ hc.1]; simp; rfl
      | false => rw [unq_c _ hc.1, prp_cons]; simpa using ord3 x 5 false false false hx (by simp [isNL])
/-- send, prepare, read -/
theorem ord4 : ∀ (x : List It) (ah : Nat) (half b r : Bool), (∀ i ∈ x, OkIt pL i) → ((b = isNL ah ∧ r = (ah == 3)) ∧ (half = true → ah ≠ 3)) →
    unq half (prp pL (dots b (crlf r (tx x)))) = walkL false true ah half x
  | [], ah, half, b, r, _, _ => by cases half <;> rfl
  | (k, c, f) :: x, ah, half, b, r, h, hs => by
    have hx : ∀ i ∈ x, OkIt pL i := fun i hi => h i (List.mem_cons_of_mem _ hi)
    have hi := h _ List.mem_cons_self
    unfold OkIt at hi
    simp only at hi
    rw [tx_cons]
    unfold walkL
    dsimp only
    rcases hi with ⟨rfl, rfl⟩ | ⟨rfl, hp, hf⟩ | ⟨rfl, rfl⟩ | ⟨rfl, rfl⟩ | ⟨rfl, rfl⟩ | ⟨rfl, rfl, hf1, hf⟩
    · obtain ⟨⟨rfl, rfl⟩, hh⟩ := hs
      rw [crlf_c _ _ (by decide) (by decide), dots_c _ (by decide) (.inr (by decide)), prp_cons, P.q, List.singleton_append]
      cases half with
      | false => rw [unq_q]; simpa using ord4 x 0 true false false hx (by simp [isNL])
      | true => rw [unq_qq]; simpa using ord4 x 0 false false false hx (by simp [isNL])
    · have hc := hf.no c (by simp)
      rw [crlf_c _ _ hc.2.1 hc.2.2, dots_c _ hc.2.1 (.inr hf.hd), prp_cons, hp]
      simpa using ord4 x 1 half false false hx (by simp [isNL])
    · obtain ⟨⟨rfl, rfl⟩, hh⟩ := hs
      rw [crlf_c _ _ (by decide) (by decide)]
      by_cases hn : ah = 3 ∨ ah = 4
      · have e : isNL ah = true := by unfold isNL; simpa using hn
        rw [e, dots_d, prp_cons, prp_cons, P.d, List.singleton_append, List.singleton_append]
        cases half with
        | true => rw [unq_s _ (by decide)]; simp
        | false => rw [unq_c _ (by decide), unq_c _ (by decide)]; simpa [hn] using ord4 x 2 false false false hx (by simp [isNL])
      · have e : isNL ah = false := by unfold isNL; simpa using hn
        rw [e, dots_c _ (by decide) (.inl rfl), prp_cons, P.d, List.singleton_append]
        cases half with
        | true => rw [unq_s _ (by decide)]; simp
        | false => rw [unq_c _ (by decide)]; simpa [hn] using ord4 x 2 false false false hx (by simp [isNL])
    · rw [crlf_r, dots_c _ (by decide) (.inr (by decide)), dots_n, prp_cons, prp_cons, P.r, P.n, List.singleton_append, List.singleton_append]
      cases half with
      | true => rw [unq_s _ (by decide)]; simp
      | false => rw [unq_c _ (by decide), unq_c _ (by decide)]; simpa using ord4 x 3 false true true hx (by simp [isNL])
    · obtain ⟨⟨rfl, rfl⟩, hh⟩ := hs
      rw [crlf_n]
      by_cases hn : ah = 3
      · subst hn
        cases half with
        | true => exact absurd rfl (hh rfl)
        | false => simpa [isNL] using ord4 x 4 false true false hx (by simp [isNL])
      · have e : (ah == 3) = false := by simpa using hn
        rw [e, if_neg (by decide), dots_c _ (by decide) (.inr (by decide)), dots_n, prp_cons, prp_cons, P.r, P.n, List.singleton_append, List.singleton_append]
        cases half with
        | true => rw [unq_s _ (by decide)]; simp
        | false => rw [unq_c _ (by decide), unq_c _ (by decide)]; simpa [hn] using ord4 x 4 false true false hx (by simp [isNL])
    · have hc := hf1.no c (by simp)
      rw [crlf_c _ _ hc.2.1 hc.2.2, dots_c _ hc.2.1 (.inr hf1.hd), prp_cons]
      cases half with
      | true => rw [unq_fT _ hf]; simp
      | false => rw [unq_fF _ hf.no]; simpa using ord4 x 5 false false false hx (by simp [isNL])
/-- prepare, read, send -/
theorem ord5 : ∀ (x : List It) (ah : Nat) (half b r : Bool), (∀ i ∈ x, OkIt pL i) → (half = false → b = isNL ah ∧ r = (ah == 3)) →
    dots b (crlf r (unq half (prp pL (tx x)))) = walkL false false ah half x
  | [], ah, half, b, r, _, _ => by cases half <;> rfl
  | (k, c, f) :: x, ah, half, b, r, h, hs => by
    have hx : ∀ i ∈ x, OkIt pL i := fun i hi => h i (List.mem_cons_of_mem _ hi)
    have hi := h _ List.mem_cons_self
    unfold OkIt at hi
    simp only at hi
    rw [tx_cons]
    unfold walkL
    dsimp only
    rcases hi with ⟨rfl, rfl⟩ | ⟨rfl, hp, hf⟩ | ⟨rfl, rfl⟩ | ⟨rfl, rfl⟩ | ⟨rfl, rfl⟩ | ⟨rfl, rfl, hf1, hf⟩
    · rw [prp_cons, P.q, List.singleton_append]
      cases half with
      | false => rw [unq_q]; simpa using ord5 x 0 true b r hx (by simp)
      | true =>
        rw [unq_qq, crlf_c _ _ (by decide) (by decide), dots_c _ (by decide) (.inr (by decide))]
        simpa using ord5 x 0 false false false hx (by simp [isNL])
    · rw [prp_cons, hp]
      simpa using ord5 x ah half b r hx hs
    · rw [prp_cons, P.d, List.singleton_append]
      cases half with
      | true => rw [unq_s _ (by decide)]; simp; rfl
      | false =>
        obtain ⟨rfl, rfl⟩ := hs rfl
        rw [unq_c _ (by decide), crlf_c _ _ (by decide) (by decide)]
        by_cases hn : ah = 3 ∨ ah = 4
        · have e : isNL ah = true := by unfold isNL; simpa using hn
          rw [e, dots_d]
          simpa [hn] using ord5 x 2 false false false hx (by simp [isNL])
        · have e : isNL ah = false := by unfold isNL; simpa using hn
          rw [e, dots_c _ (by decide) (.inl rfl)]
          simpa [hn] using ord5 x 2 false false false hx (by simp [isNL])
    · rw [prp_cons, P.r, List.singleton_append]
      cases half with
      | true => rw [unq_s _ (by decide)]; simp; rfl
      | false =>
        rw [unq_c _ (by decide), crlf_r, dots_c _ (by decide) (.inr (by decide)), dots_n]
        simpa using ord5 x 3 false true true hx (by simp [isNL])
    · rw [prp_cons, P.n, List.singleton_append]
      cases half with
      | true => rw [unq_s _ (by decide)]; simp; rfl
      | false =>
        obtain ⟨rfl, rfl⟩ := hs rfl
        rw [unq_c _ (by decide), crlf_n]
        by_cases hn : ah = 3
        · subst hn
          simpa [isNL] using ord5 x 4 false true false hx (by simp [isNL])
        · have e : (ah == 3) = false := by simpa using hn
          rw [e, if_neg (by decide), dots_c _ (by decide) (.inr (by decide)), dots_n]
          simpa [hn] using ord5 x 4 false true false hx (by simp [isNL])
    · rw [prp_cons]
      cases half with
      | true => rw [unq_fT _ hf]; simp; rfl
      | false =>
        rw [unq_fF _ hf.no, crlf_f _ _ hf.ne hf.no, dots_f _ _ hf]
        simpa using ord5 x 5 false false false hx (by simp [isNL])
/-- prepare, send, read -/
theorem ord6 : ∀ (x : List It) (ah : Nat) (half b r : Bool), (∀ i ∈ x, OkIt pL i) → ((b = isNL ah ∧ r = (ah == 3)) ∧ (half = true → ah ≠ 3)) →
    unq half (dots b (crlf r (prp pL (tx x)))) = walkL false false ah half x
  | [], ah, half, b, r, _, _ => by cases half <;> rfl
  | (k, c, f) :: x, ah, half, b, r, h, hs => by
    have hx : ∀ i ∈ x, OkIt pL i := fun i hi => h i (List.mem_cons_of_mem _ hi)
    have hi := h _ List.mem_cons_self
    unfold OkIt at hi
    simp only at hi
    rw [tx_cons]
    unfold walkL
    dsimp only
    rcases hi with ⟨rfl, rfl⟩ | ⟨rfl, hp, hf⟩ | ⟨rfl, rfl⟩ | ⟨rfl, rfl⟩ | ⟨rfl, rfl⟩ | ⟨rfl, rfl, hf1, hf⟩
    · obtain ⟨⟨rfl, rfl⟩, hh⟩ := hs
      rw [prp_cons, P.q, List.singleton_append, crlf_c _ _ (by decide) (by decide), dots_c _ (by decide) (.inr (by decide))]
      cases half with
      | false => rw [unq_q]; simpa using ord6 x 0 true false false hx (by simp [isNL])
      | true => rw [unq_qq]; simpa using ord6 x 0 false false false hx (by simp [isNL])
    · rw [prp_cons, hp]
      simpa using ord6 x ah half b r hx hs
    · obtain ⟨⟨rfl, rfl⟩, hh⟩ := hs
      rw [prp_cons, P.d, List.singleton_append, crlf_c _ _ (by decide) (by decide)]
      by_cases hn : ah = 3 ∨ ah = 4
      · have e : isNL ah = true := by unfold isNL; simpa using hn
        rw [e, dots_d]
        cases half with
        | true => rw [unq_s _ (by decide)]; simp
        | false => rw [unq_c _ (by decide), unq_c _ (by decide)]; simpa [hn] using ord6 x 2 false false false hx (by simp [isNL])
      · have e : isNL ah = false := by unfold isNL; simpa using hn
        rw [e, dots_c _ (by decide) (.inl rfl)]
        cases half with
        | true => rw [unq_s _ (by decide)]; simp
        | false => rw [unq_c _ (by decide)]; simpa [hn] using ord6 x 2 false false false hx (by simp [isNL])
    · rw [prp_cons, P.r, List.singleton_append, crlf_r, dots_c _ (by decide) (.inr (by decide)), dots_n]
      cases half with
      | true => rw [unq_s _ (by decide)]; simp
      | false => rw [unq_c _ (by decide), unq_c _ (by decide)]; simpa using ord6 x 3 false true true hx (by simp [isNL])
    · obtain ⟨⟨rfl, rfl⟩, hh⟩ := hs
      rw [prp_cons, P.n, List.singleton_append, crlf_n]
      by_cases hn : ah = 3
      · subst hn
        cases half with
        | true => exact absurd rfl (hh rfl)
        | false => simpa [isNL] using ord6 x 4 false true false hx (by simp [isNL])
      · have e : (ah == 3) = false := by simpa using hn
        rw [e, if_neg (by decide), dots_c _ (by decide) (.inr (by decide)), dots_n]
        cases half with
        | true => rw [unq_s _ (by decide)]; simp
        | false => rw [unq_c _ (by decide), unq_c _ (by decide)]; simpa [hn] using ord6 x 4 false true false hx (by simp [isNL])
    · rw [prp_cons, crlf_f _ _ hf.ne hf.no, dots_f _ _ hf]
      cases half with
      | true => rw [unq_fT _ hf]; simp
      | false => rw [unq_fF _ hf.no]; simpa using ord6 x 5 false false false hx (by simp [isNL])
end
end Mine

end
section
set_option Elab.async false
set_option maxRecDepth 100000
set_option linter.unusedVariables false
namespace Mine
noncomputable def opn : List Nat := [50, 53, 55, 32, 34]
/-- the opening, with an unseen sign at place p when p < 5 -/
noncomputable def opnU (p u : Nat) : List Nat := if p < 5 then opn.take p ++ u :: opn.drop p else opn
/-- the signs, with an unseen sign ahead when p = 5 -/
noncomputable def itsU (p u : Nat) (x : List It) : List It := if p = 5 then (1, u, []) :: x else x
noncomputable def rpl (p u : Nat) (x : List It) : List Nat := opnU p u ++ tx (itsU p u x)
noncomputable def rdL (l : List Nat) : Option (List Nat) := if l.take 3 = [50, 53, 55] then some (if (l.drop 3).take 2 = [32, 34] then unq false (l.drop 5) else []) else none
noncomputable def sdL (l : List Nat) : List Nat := dots true (crlf false l)
/-- what the walk says, with the reader's openings -/
noncomputable def dueL (br bs st : Bool) (p u : Nat) (x : List It) : Option (List Nat) :=
  if br && decide (p < 5) then (if p < 3 then none else some []) else some (walkL br bs (if st then 4 else 5) false (itsU p u x))
structure PrepO (pL : Nat → List Nat) : Prop extends PrepL pL where
  a : pL 50 = [50]
  b : pL 53 = [53]
  c : pL 55 = [55]
  s : pL 32 = [32]
theorem sd_app {l : List Nat} : ∀ {o : List Nat}, o ≠ [] → (∀ c ∈ o, c ≠ 10 ∧ c ≠ 13) → (o.headD 0 ≠ 46) → sdL (o ++ l) = o ++ dots false (crlf false l) := by
  intro o ne no hd
  have key : ∀ (o : List Nat) (b : Bool), (∀ c ∈ o, c ≠ 10 ∧ c ≠ 13) → (b = false ∨ o.headD 0 ≠ 46) → o ≠ [] → dots b (crlf false (o ++ l)) = o ++ dots false (crlf false l) := by
    intro o
    induction o with
    | nil => intro b _ _ h; exact absurd rfl h
    | cons c o ih =>
      intro b hn hb _
      have hc := hn c List.mem_cons_self
      rw [List.cons_append, crlf_c _ _ hc.1 hc.2, dots_c _ hc.1 (by rcases hb with h | h; exact .inl h; exact .inr h)]
      cases o with
      | nil => rfl
      | cons d o => rw [ih false (fun e he => hn e (List.mem_cons_of_mem _ he)) (.inl rfl) (by simp)]; rfl
  exact key o true no (.inr hd) ne
theorem place8 {p : Nat} (h : p < 8) : p = 0 ∨ p = 1 ∨ p = 2 ∨ p = 3 ∨ p = 4 ∨ p = 5 ∨ p = 6 ∨ p = 7 := by omega
section
variable {pL : Nat → List Nat} (P : PrepO pL) {u p : Nat} (hu : pL u = []) (hf : PlainF [u]) (hne : ∀ d ∈ opn, u ≠ d)
include hf
theorem itsU_ok (hu : pL u = []) {x : List It} (h : ∀ i ∈ x, OkIt pL i) : ∀ i ∈ itsU p u x, OkIt pL i := by
  unfold itsU
  split
  · intro i hi
    rcases List.mem_cons.mp hi with rfl | hi
    · exact .inr (.inl ⟨rfl, hu, hf⟩)
    · exact h i hi
  · exact h
theorem opnU_plain : ∀ c ∈ opnU p u, c ≠ 10 ∧ c ≠ 13 := by
  intro c hc
  have hu := hf.no u (by simp)
  have ho : ∀ c ∈ opn, c ≠ 10 ∧ c ≠ 13 := by decide
  unfold opnU at hc
  split at hc
  · rcases List.mem_append.mp hc with h | h
    · exact ho c (List.mem_of_mem_take h)
    · rcases List.mem_cons.mp h with rfl | h
      · exact hu.2
      · exact ho c (List.mem_of_mem_drop h)
  · exact ho c hc
theorem opnU_hd (hp : p < 8) : opnU p u ≠ [] ∧ (opnU p u).headD 0 ≠ 46 := by
  have h46 : u ≠ 46 := hf.hd
  rcases place8 hp with rfl | rfl | rfl | rfl | rfl | rfl | rfl | rfl <;> exact ⟨by simp [opnU, opn], by simp [opnU, opn]; try exact h46⟩
theorem sd_rpl (hp : p < 8) (x : List It) : sdL (rpl p u x) = opnU p u ++ dots false (crlf false (tx (itsU p u x))) :=
  sd_app (opnU_hd hf hp).1 (opnU_plain hf) (opnU_hd hf hp).2
omit hf
theorem rd_U (hne : ∀ d ∈ opn, u ≠ d) (hp : p < 8) (l : List Nat) : rdL (opnU p u ++ l) = if p < 3 then none else some (if p < 5 then [] else unq false l) := by
  have h0 : u ≠ 50 := hne 50 (by decide)
  have h1 : u ≠ 53 := hne 53 (by decide)
  have h2 : u ≠ 55 := hne 55 (by decide)
  have h3 : u ≠ 32 := hne 32 (by decide)
  have h4 : u ≠ 34 := hne 34 (by decide)
  rcases place8 hp with rfl | rfl | rfl | rfl | rfl | rfl | rfl | rfl <;> simp [rdL, opnU, opn, h0, h1, h2, h3, h4]
theorem rd_O (l : List Nat) : rdL (opn ++ l) = some (unq false l) := by simp [rdL, opn]
include P hu
theorem pp_U (l : List Nat) : prp pL (opnU p u ++ l) = opn ++ prp pL l := by
  have ho : prp pL opn = opn := by simp only [opn, prp_cons, prp_nil, P.a, P.b, P.c, P.s, P.q]; rfl
  rw [prp_app]
  congr 1
  unfold opnU
  split
  · rw [prp_app, prp_cons, hu, List.nil_append, ← prp_app, List.take_append_drop, ho]
  · exact ho
theorem law1 (hf : PlainF [u]) (hne : ∀ d ∈ opn, u ≠ d) (hp : p < 8) {x : List It} (h : ∀ i ∈ x, OkIt pL i) : (rdL (rpl p u x)).map (fun l => prp pL (sdL l)) = dueL true true true p u x := by
  unfold rpl dueL
  rw [rd_U hne hp]
  by_cases h3 : p < 3
  · simp [h3, show p < 5 by omega]
  · by_cases h5 : p < 5
    · simp [h3, h5]; rfl
    · simp only [h3, h5, if_false, Option.map_some, decide_false, Bool.and_false, Bool.false_eq_true]
      congr 1
      exact ord1 P.toPrepL _ 4 false true false (itsU_ok hf hu h) (fun _ => ⟨rfl, rfl⟩)
theorem law2 (hf : PlainF [u]) (hne : ∀ d ∈ opn, u ≠ d) (hp : p < 8) {x : List It} (h : ∀ i ∈ x, OkIt pL i) : (rdL (rpl p u x)).map (fun l => sdL (prp pL l)) = dueL true false true p u x := by
  unfold rpl dueL
  rw [rd_U hne hp]
  by_cases h3 : p < 3
  · simp [h3, show p < 5 by omega]
  · by_cases h5 : p < 5
    · simp [h3, h5]; rfl
    · simp only [h3, h5, if_false, Option.map_some, decide_false, Bool.and_false, Bool.false_eq_true]
      congr 1
      exact ord2 P.toPrepL _ 4 false true false (itsU_ok hf hu h) (fun _ => ⟨rfl, rfl⟩)
theorem law3 (hf : PlainF [u]) (hne : ∀ d ∈ opn, u ≠ d) (hp : p < 8) {x : List It} (h : ∀ i ∈ x, OkIt pL i) : (rdL (sdL (rpl p u x))).map (fun l => prp pL l) = dueL true true false p u x := by
  unfold dueL
  rw [sd_rpl hf hp, rd_U hne hp]
  by_cases h3 : p < 3
  · simp [h3, show p < 5 by omega]
  · by_cases h5 : p < 5
    · simp [h3, h5]; rfl
    · simp only [h3, h5, if_false, Option.map_some, decide_false, Bool.and_false, Bool.false_eq_true]
      congr 1
      exact ord3 P.toPrepL _ 5 false false false (itsU_ok hf hu h) ⟨⟨rfl, rfl⟩, fun h => by cases h⟩
theorem law4 (hf : PlainF [u]) (hp : p < 8) {x : List It} (h : ∀ i ∈ x, OkIt pL i) : rdL (prp pL (sdL (rpl p u x))) = dueL false true false p u x := by
  unfold dueL
  rw [sd_rpl hf hp, pp_U P hu, rd_O]
  simp only [Bool.false_and, Bool.false_eq_true, if_false]
  congr 1
  exact ord4 P.toPrepL _ 5 false false false (itsU_ok hf hu h) ⟨⟨rfl, rfl⟩, fun h => by cases h⟩
theorem law5 (hf : PlainF [u]) {x : List It} (h : ∀ i ∈ x, OkIt pL i) : (rdL (prp pL (rpl p u x))).map sdL = dueL false false true p u x := by
  unfold dueL rpl
  rw [pp_U P hu, rd_O]
  simp only [Bool.false_and, Bool.false_eq_true, if_false, if_true, Option.map_some]
  congr 1
  exact ord5 P.toPrepL _ 4 false true false (itsU_ok hf hu h) (fun _ => ⟨rfl, rfl⟩)
theorem law6 (hf : PlainF [u]) {x : List It} (h : ∀ i ∈ x, OkIt pL i) : rdL (sdL (prp pL (rpl p u x))) = dueL false false false p u x := by
  unfold dueL rpl
  rw [pp_U P hu, sd_app (by decide) (by decide) (by decide), rd_O]
  simp only [Bool.false_and, Bool.false_eq_true, if_false]
  congr 1
  exact ord6 P.toPrepL _ 5 false false false (itsU_ok hf hu h) ⟨⟨rfl, rfl⟩, fun h => by cases h⟩
end
end Mine

end
section
open PySem PySem.W PyProof.Rows
set_option Elab.async false
set_option maxRecDepth 100000
set_option linter.unusedVariables false
namespace Mine
noncomputable def lsCodes : List Nat := [172, 174, 846, 6158, 8202, 8206, 8287, 8232, 133, 11, 848, 6149, 6154, 8289, 65023, 65040, 65278, 65280]
noncomputable def ls24 : List (Str × Str) := [(S "Q", S "q"), (S "ﬃ", S "ffi"), (S "㏇", S "co."), (S "ẞ", S "ß"), (S "ͺ", S " ι"), (S "K", S "k")] ++ lsCodes.map fun c => (⟨#[c]⟩, ⟨#[c]⟩)
noncomputable def lsF (k : Int) : Str × Str := ls24.getD (Int.fmod k 24).toNat (S "", S "")
noncomputable def pLc (c : Nat) : List Nat := if isB1 c = true then [] else (mapF ⟨#[c]⟩).cps.toList
noncomputable def plainB (f : List Nat) : Bool := !f.isEmpty && f.all (fun c => c != 34 && c != 10 && c != 13) && f.headD 0 != 46
theorem plain_of {f : List Nat} (h : plainB f = true) : PlainF f := by
  unfold plainB at h
  simp only [Bool.and_eq_true, List.all_eq_true, bne_iff_ne, ne_eq, Bool.not_eq_true', List.isEmpty_eq_false_iff] at h
  exact ⟨h.1.1, fun c hc => ⟨(h.1.2 c hc).1.1, (h.1.2 c hc).1.2, (h.1.2 c hc).2⟩, h.2⟩
/-- the code of a lasting sign -/
noncomputable def lsC (k : Int) : Nat := (lsF k).1.cps.getD 0 0
noncomputable def lsOk (p : Str × Str) : Bool := decide (p.1 = ⟨#[p.1.cps.getD 0 0]⟩) && decide (pLc (p.1.cps.getD 0 0) = p.2.cps.toList) && plainB [p.1.cps.getD 0 0] && plainB p.2.cps.toList && decide ((Txt.lower p.1).length ≤ 1000) && decide (p.2.length ≤ 3)
theorem ls_all : ls24.all lsOk = true := by decide +kernel
theorem ls_len : ls24.length = 24 := by decide +kernel
theorem ls_mem (k : Int) : lsF k ∈ ls24 := by
  have h1 := Int.fmod_nonneg_of_pos k (show (0 : Int) < 24 by decide)
  have h2 := Int.fmod_lt_of_pos k (show (0 : Int) < 24 by decide)
  have hl := ls_len
  unfold lsF
  rw [List.getD_eq_getElem?_getD, List.getElem?_eq_getElem (by omega)]
  exact List.getElem_mem (h := by omega)
theorem ls_ok (k : Int) : lsOk (lsF k) = true := List.all_eq_true.mp ls_all _ (ls_mem k)
theorem un_mem (k : Int) : ∃ i ∈ unL, unC k = i.toNat := by
  have h1 := Int.fmod_nonneg_of_pos k (show (0 : Int) < 27 by decide)
  have h2 := Int.fmod_lt_of_pos k (show (0 : Int) < 27 by decide)
  have hl := unL_len
  refine ⟨unL[(Int.fmod k 27).toNat]'(by omega), List.getElem_mem (h := by omega), ?_⟩
  unfold unC
  rw [List.getD_eq_getElem?_getD, List.getElem?_eq_getElem (by omega)]
  rfl
noncomputable def unOk (c : Nat) : Bool := decide (pLc c = []) && plainB [c] && opn.all (fun d => c != d) && isB1 c
theorem un_all : unL.all (fun i => unOk i.toNat) = true := by decide +kernel
theorem un_ok (k : Int) : unOk (unC k) = true := by
  obtain ⟨i, hi, e⟩ := un_mem k
  rw [e]
  exact List.all_eq_true.mp un_all i hi
theorem prepO : PrepO pLc := ⟨⟨by decide +kernel, by decide +kernel, by decide +kernel, by decide +kernel⟩, by decide +kernel, by decide +kernel, by decide +kernel, by decide +kernel⟩
theorem un_p (k : Int) : pLc (unC k) = [] ∧ PlainF [unC k] ∧ (∀ d ∈ opn, unC k ≠ d) ∧ isB1 (unC k) = true := by
  have h := un_ok k
  unfold unOk at h
  simp only [Bool.and_eq_true, decide_eq_true_eq, List.all_eq_true, bne_iff_ne, ne_eq] at h
  exact ⟨h.1.1.1, plain_of h.1.1.2, h.1.2, h.2⟩
theorem ls_p (k : Int) : (lsF k).1 = ⟨#[lsC k]⟩ ∧ pLc (lsC k) = (lsF k).2.cps.toList ∧ PlainF [lsC k] ∧ PlainF (lsF k).2.cps.toList ∧ (Txt.lower (lsF k).1).length ≤ 1000 ∧ (lsF k).2.length ≤ 3 := by
  have h := ls_ok k
  unfold lsOk at h
  simp only [Bool.and_eq_true, decide_eq_true_eq] at h
  exact ⟨h.1.1.1.1.1, h.1.1.1.1.2, plain_of h.1.1.1.2, plain_of h.1.1.2, h.1.2, h.2⟩
/-- the item of a number -/
noncomputable def itF (n : Int) : It :=
  if Int.fmod n 8 < 2 then (0, 34, [34])
  else if Int.fmod n 8 = 2 then (1, unC (Int.fdiv n 8), [])
  else if Int.fmod n 8 = 3 then (2, 46, [46])
  else if Int.fmod n 8 = 4 then (3, 13, [13])
  else if Int.fmod n 8 = 5 then (4, 10, [10])
  else (5, lsC (Int.fdiv n 8), (lsF (Int.fdiv n 8)).2.cps.toList)
theorem itF_ok (n : Int) : OkIt pLc (itF n) := by
  unfold itF OkIt
  split
  · exact .inl ⟨rfl, rfl⟩
  split
  · exact .inr (.inl ⟨rfl, (un_p _).1, (un_p _).2.1⟩)
  split
  · exact .inr (.inr (.inl ⟨rfl, rfl⟩))
  split
  · exact .inr (.inr (.inr (.inl ⟨rfl, rfl⟩)))
  split
  · exact .inr (.inr (.inr (.inr (.inl ⟨rfl, rfl⟩))))
  · exact .inr (.inr (.inr (.inr (.inr ⟨rfl, (ls_p _).2.1, (ls_p _).2.2.1, (ls_p _).2.2.2.1⟩))))
noncomputable def itsF (ns : List Int) : List It := ns.map itF
theorem itsF_ok (ns : List Int) : ∀ i ∈ itsF ns, OkIt pLc i := by
  intro i hi
  obtain ⟨n, _, rfl⟩ := List.mem_map.mp hi
  exact itF_ok n
end Mine

end
section
open PySem PySem.W PyProof.Rows
set_option Elab.async false
set_option maxRecDepth 100000
set_option linter.unusedVariables false
namespace Mine
theorem rd_yes {v : Str} (h : v.cps.toList.take 3 = [50, 53, 55]) : rdL v.cps.toList = some (pF v).cps.toList := by
  unfold rdL pF
  rw [if_pos h]
  split <;> rfl
theorem rd_no {v : Str} (h : ¬ v.cps.toList.take 3 = [50, 53, 55]) : rdL v.cps.toList = none := by
  unfold rdL
  rw [if_neg h]
theorem sd_str (v : Str) : (quoteS v).cps.toList = sdL v.cps.toList := rfl
theorem join_flat : ∀ (ys : List Str), (Str.join (S "") ys).cps.toList = ys.flatMap fun y => y.cps.toList
  | [] => rfl
  | [y] => by simp [Str.join]
  | y :: z :: r => by
    have h : Str.join (S "") (y :: z :: r) = y ++ S "" ++ Str.join (S "") (z :: r) := rfl
    rw [h, str_app, str_app, join_flat (z :: r), show (S "").cps.toList = [] from by decide +kernel]
    simp
theorem prep_flat (l : List Nat) : ((l.filterMap fun c => if isB1 c = true then none else some (mapF ⟨#[c]⟩)).flatMap fun y => y.cps.toList) = prp pLc l := by
  induction l with
  | nil => rfl
  | cons c l ih =>
    rw [prp_cons, ← ih]
    unfold pLc
    cases hb : isB1 c with
    | true => simp [hb]
    | false => simp [hb]
theorem prep_str (v : Str) : (Str.join (S "") (v.cps.toList.filterMap fun c => if isB1 c = true then none else some (mapF ⟨#[c]⟩))).cps.toList = prp pLc v.cps.toList := by
  rw [join_flat, prep_flat]
/-- each code that may come: its lower form and its fold are short -/
noncomputable def shortC (c : Nat) : Bool := decide ((Txt.lower ⟨#[c]⟩).length ≤ 1000) && decide ((mapF ⟨#[c]⟩).length ≤ 3)
theorem sum3 : ∀ (l : List Nat), (∀ c ∈ l, shortC c = true) → ((l.filterMap fun c => if isB1 c = true then none else some (mapF ⟨#[c]⟩)).map (·.length)).sum ≤ 3 * l.length
  | [], _ => Nat.le_refl _
  | c :: l, h => by
    have ih := sum3 l fun e he => h e (List.mem_cons_of_mem _ he)
    have hc := h c List.mem_cons_self
    unfold shortC at hc
    simp only [Bool.and_eq_true, decide_eq_true_eq] at hc
    rw [List.filterMap_cons]
    cases hb : isB1 c with
    | true => simp only [if_true]; rw [List.length_cons]; omega
    | false => simp only [Bool.false_eq_true, if_false, List.map_cons, List.sum_cons, List.length_cons]; omega
theorem prep_ready {v : Str} (hl : v.length ≤ 400000) (h : ∀ c ∈ v.cps.toList, shortC c = true) :
    (∀ c ∈ v.cps.toList, (Txt.lower ⟨#[c]⟩).length ≤ 1000) ∧ ((v.cps.toList.filterMap fun c => if isB1 c = true then none else some (mapF ⟨#[c]⟩)).map (·.length)).sum + (v.cps.toList.filterMap fun c => if isB1 c = true then none else some (mapF ⟨#[c]⟩)).length * (Str.ofString "").length ≤ 16777216 := by
  refine ⟨fun c hc => ?_, ?_⟩
  · have := h c hc
    unfold shortC at this
    simp only [Bool.and_eq_true, decide_eq_true_eq] at this
    exact this.1
  · have h3 := sum3 _ h
    have hlen : v.cps.toList.length = v.length := len_toList v
    rw [show (Str.ofString "").length = 0 from by decide +kernel]
    omega
end Mine

end
section
open PySem PySem.W PySem.Spec PySem.Calls PyProof.Rows PyProof.Rows.LCg PyProof.Rows.LCt
set_option Elab.async false
set_option maxRecDepth 100000
set_option linter.unusedVariables false
set_option maxHeartbeats 2000000
namespace Mine
/-- a new tuple of two texts -/
noncomputable abbrev tup2 (a b : PySem.Str) (t u : Tok) : Obj := ⟨.type "tuple", none, .seq #[.str a t, .str b u] 0, #[]⟩
inductive TupsAre (news : List (Addr × Obj)) : List Value → List Nat → Prop
  | nil : TupsAre news [] []
  | cons {T : Addr} {t u : Tok} {c : Nat} {r : List Value} {cs : List Nat} (h : (T, tup2 ⟨#[c]⟩ ⟨#[c]⟩ t u) ∈ news) (q : TupsAre news r cs) : TupsAre news (.ref T :: r) (c :: cs)
theorem TupsAre.mono {news news' : List (Addr × Obj)} (s : ∀ p ∈ news, p ∈ news') : ∀ {vs : List Value} {cs : List Nat}, TupsAre news vs cs → TupsAre news' vs cs
  | _, _, .nil => .nil
  | _, _, .cons h q => .cons (s _ h) (q.mono s)
theorem TupsAre.snoc {news : List (Addr × Obj)} {T : Addr} {t u : Tok} {c : Nat} (h : (T, tup2 ⟨#[c]⟩ ⟨#[c]⟩ t u) ∈ news) : ∀ {vs : List Value} {cs : List Nat}, TupsAre news vs cs → TupsAre news (vs ++ [.ref T]) (cs ++ [c])
  | _, _, .nil => .cons h .nil
  | _, _, .cons h' q => .cons h' (q.snoc h)
theorem TupsAre.len {news : List (Addr × Obj)} : ∀ {vs : List Value} {cs : List Nat}, TupsAre news vs cs → vs.length = cs.length
  | _, _, .nil => rfl
  | _, _, .cons _ q => by rw [List.length_cons, List.length_cons, q.len]
theorem SrcAt.more {h₀ : Heap} {ax : Addr} {its : Array Value} {news : List (Addr × Obj)} (p : Addr × Obj) (x : SrcAt h₀ ax its news) : SrcAt h₀ ax its (p :: news) := by
  rcases x with h | ⟨o, hm, r⟩
  · exact .inl h
  · exact .inr ⟨o, .tail _ hm, r⟩
section
variable {prog : Program} {w : World} {A : Around} {E : Value → Shared → Prop} {s : Shared} {h₀ : Heap} {L : Addr} {m : PySem.Str → Option Value} {env : Env}
theorem ls_rest {elt : Expr} {x : PySem.Str} {scope : Scope} {cl : List (PySem.Str × Addr)} {Fin : List Value → List (Addr × Obj) → Prop} {news : List (Addr × Obj)} {ax : Addr} {its : Array Value} (cs : List Nat)
    (hn : its.size = cs.length) (hits : ∀ i, i < cs.length → ∃ t, its[i]? = some (.int ((cs.getD i 0 : Nat) : Int) t)) (hsrc : SrcAt h₀ ax its news)
    (turn : ∀ c t I oI C oC D m₂ ys nw h tk (E' : Value → Shared → Prop), c ∈ cs → NsObj oC m₂ → m₂ x = some (.int ((c : Nat) : Int) t) → Fr h₀ L h m → News h₀ L h ((I, oI) :: (C, oC) :: (D, lst ys) :: nw) → Off3 I C D nw → ((@Ne Nat I C) ∧ (@Ne Nat I D) ∧ (@Ne Nat C D)) →
      wpAny (model prog w) A (eval elt (compEnvC scope cl C env)) (CompEnd h₀ L m { s with heap := h, toks := tk } I oI C oC D (lst ys) (fun _ => True) (fun y nw' => ∃ T t u, y = .ref T ∧ nw' = (T, tup2 ⟨#[c]⟩ ⟨#[c]⟩ t u) :: nw)) E' { s with heap := h, toks := tk })
    (fin : ∀ ys nw, TupsAre nw ys cs → (∀ p ∈ news, p ∈ nw) → Fin ys nw) :
    CompRest prog w A h₀ L m env elt x scope cl s (SrcAt h₀ ax its) (fun i v => its[i]? = some v) Fin its.size 0 [] news := by
  have key : ∀ (j i : Nat) (ys : List Value) (nw : List (Addr × Obj)), i + j = cs.length → TupsAre nw ys (cs.take i) → (∀ p ∈ news, p ∈ nw) → SrcAt h₀ ax its nw →
      CompRest prog w A h₀ L m env elt x scope cl s (SrcAt h₀ ax its) (fun i v => its[i]? = some v) Fin j i ys nw := by
    intro j
    induction j with
    | zero =>
      intro i ys nw hi hy hs _
      have e : i = cs.length := by omega
      subst e
      rw [List.take_length] at hy
      exact CompRest.zero (fin ys nw hy hs)
    | succ j ih =>
      intro i ys nw hi hy hs hS
      refine CompRest.succ ?_
      intro v I oI C oC D m₂ h tk E' hv hC hx F N off ne
      have hlt : i < cs.length := by omega
      obtain ⟨t, ht⟩ := hits i hlt
      have hv' : its[i]? = some v := hv
      rw [ht] at hv'
      cases hv'
      have hg : cs.getD i 0 = cs[i] := by rw [List.getD_eq_getElem?_getD, List.getElem?_eq_getElem hlt]; rfl
      have hmem : cs.getD i 0 ∈ cs := by rw [hg]; exact List.getElem_mem hlt
      have htk : cs.take (i + 1) = cs.take i ++ [cs.getD i 0] := by rw [List.take_add_one, List.getElem?_eq_getElem hlt, hg]; rfl
      refine wpAny_mono (turn _ t I oI C oC D m₂ ys nw h tk E' hmem hC hx F N off ne) (fun y s₃ hr => ?_) fun _ _ e => e
      obtain ⟨h', tk', nw', e, F', N', off', _, T, t1, u1, rfl, rfl⟩ := hr
      refine ⟨h', tk', _, e, F', N', off', SrcAt.more _ hS, ?_⟩
      refine ih (i + 1) _ _ (by omega) ?_ (fun p hp => .tail _ (hs p hp)) (SrcAt.more _ hS)
      rw [htk]
      exact (hy.mono fun p hp => .tail _ hp).snoc (.head _)
  rw [hn]
  exact key cs.length 0 [] news (by omega) .nil (fun p hp => hp) hsrc
end
end Mine

end
section
open PySem PySem.W PyProof.Rows
set_option Elab.async false
set_option maxRecDepth 100000
set_option linter.unusedVariables false
namespace Mine
/-- a call that gives back a new tuple of two texts -/
noncomputable abbrev CbClaimT (prog : Program) (w : World) (K : Frag) (p : Program) (loose : List Str) (mean : ExcName → Option Value) (mg mb : Str → Option Value) (f : Addr) (news : List (Addr × Obj)) (pre : Prop) (vs : List Value) (a b : Str) : Prop :=
  ∀ (dp un : Nat) (gd : Option (List Code)) (cn : Str) (cs : Scope) (ad : Addr) (ccd : Value) (cl : List (Str × Addr)) (outer : List Env) (A₀ : Around) (base h₀ : Heap) (L : Addr) (m : Str → Option Value) (s : Shared) (Q E : Value → Shared → Prop),
    Below A₀ base outer h₀ → Fr h₀ L s.heap m → K.In h₀ → News h₀ L s.heap news → Top p loose mean mg mb h₀ → cs.kind = .function →
    pre → dp + 1 < recursionLimit → un + 8 < cLine →
    (∀ (T : Addr) (h' : Heap) (tk : Nat) (t u : Tok), Fr h₀ L h' m → News h₀ L h' ((T, ⟨.type "tuple", none, .seq #[.str a t, .str b u] 0, #[]⟩) :: news) → Q (.ref T) { s with heap := h', toks := tk }) →
      wpAny (model prog w) (ktrTop dp un gd cn cs L ad ccd cl outer) (call (.ref f) vs) Q E s
local macro_rules | `(tactic| walk_at "binaryOp Add ref ref") => `(tactic| (k_here; with_reducible refine Stop.intro ?_))
theorem ls_bound : ∀ c ∈ lsCodes, c ≤ 1114111 := by decide
theorem chrC {prog : Program} {w : World} {A : Around} {Q E : Value → Shared → Prop} {s : Shared} {c : Nat} {t : Tok} (hc : c ∈ lsCodes) (h : Q (.str ⟨#[c]⟩ s.toks) { s with toks := s.toks + 1 }) :
    wpAny (model prog w) A (call (.builtin "chr") [.int (c : Int) t]) Q E s :=
  chr_of_range (i := (c : Int)) (by omega) (by have := ls_bound c hc; omega) (by rw [Int.toNat_natCast]; exact h)
local macro_rules | `(tactic| walk_at "call builtin:chr") => `(tactic| (k_here; k_dflt (refine chrC (by assumption) ?_)))
local macro_rules | `(tactic| walk_at "eval ListComp") => `(tactic| (k_here; with_reducible refine Stop.intro ?_))
local macro_rules | `(tactic| walk_at "CompSrc") => `(tactic| (k_here; with_reducible refine Stop.intro ?_))
local macro_rules | `(tactic| walk_at "CompEnd") => `(tactic| (k_here; k_dflt (refine LCg.CompEnd.intro (by k_asm) (by k_asm) _ (fun p hp => hp) (by first | assumption | lcg_off) trivial ⟨_, _, _, rfl, rfl⟩)))
theorem sub4 {a b c d : Addr × Obj} {l : List (Addr × Obj)} : ∀ p ∈ a :: b :: c :: d :: l, p ∈ d :: a :: b :: c :: l := fun p hp => by
  rcases List.mem_cons.mp hp with rfl | hp
  · exact .tail _ (.head _)
  rcases List.mem_cons.mp hp with rfl | hp
  · exact .tail _ (.tail _ (.head _))
  rcases List.mem_cons.mp hp with rfl | hp
  · exact .tail _ (.tail _ (.tail _ (.head _)))
  rcases List.mem_cons.mp hp with rfl | hp
  · exact .head _
  · exact .tail _ (.tail _ (.tail _ (.tail _ hp)))
inductive PairsAre (news : List (Addr × Obj)) : List Value → List (Str × Str) → Prop
  | nil : PairsAre news [] []
  | cons {T : Addr} {t u : Tok} {a b : Str} {r : List Value} {ps : List (Str × Str)} (h : (T, tup2 a b t u) ∈ news) (q : PairsAre news r ps) : PairsAre news (.ref T :: r) ((a, b) :: ps)
theorem PairsAre.app {news : List (Addr × Obj)} {ws : List Value} {qs : List (Str × Str)} (y : PairsAre news ws qs) : ∀ {vs : List Value} {ps : List (Str × Str)}, PairsAre news vs ps → PairsAre news (vs ++ ws) (ps ++ qs)
  | _, _, .nil => y
  | _, _, .cons h q => .cons h (y.app q)
theorem PairsAre.at {news : List (Addr × Obj)} : ∀ {vs : List Value} {ps : List (Str × Str)}, PairsAre news vs ps → ∀ {i : Nat}, i < ps.length → ∃ T t u, vs[i]? = some (.ref T) ∧ (T, tup2 (ps.getD i (S "", S "")).1 (ps.getD i (S "", S "")).2 t u) ∈ news
  | _, _, .nil, i, h => absurd h (Nat.not_lt_zero _)
  | _, _, .cons (T := T) (t := t) (u := u) h q, 0, _ => ⟨T, t, u, rfl, h⟩
  | _, _, .cons h q, i + 1, hi => by
    obtain ⟨T, t, u, h1, h2⟩ := q.at (i := i) (by simpa using hi)
    exact ⟨T, t, u, by simpa using h1, by simpa using h2⟩
theorem TupsAre.pairs {news : List (Addr × Obj)} : ∀ {vs : List Value} {cs : List Nat}, TupsAre news vs cs → PairsAre news vs (cs.map fun c => (⟨#[c]⟩, ⟨#[c]⟩))
  | _, _, .nil => .nil
  | _, _, .cons h q => .cons h q.pairs
set_option maxHeartbeats 3000000 in
theorem lasting {w : World} {mean : ExcName → Option Value} {mg mb : Str → Option Value} {news : List (Addr × Obj)} (k : Int) (t : Tok) :
  CbClaimT PySem.Challenge.rw_tr0050_01.prog w (K w.params) q01 (looseW q01 loose01) mean mg mb 156 news True [.int k t] (lsF k).1 (lsF k).2 := by
  k_fill
  dsimp only [CbClaimT]
  intros
  rename_i hret
  refine wpAny_call ?_
  k_dflt cell_enter
  k_steps
  unfold Stop
  k_here
  k_dflt (refine LCg.ListComp_U (F₀ := by k_asm) (by with_unfolding_all rfl) (by decide) (by rfl) (by decide) (by rfl) ?_)
  k_steps
  unfold Stop
  k_here
  k_dflt (refine LCg.CompSrc.ledger (by rfl) (by k_asm) (by k_asm) (by k_mem) (by exact Nat.le_of_ble_eq_true rfl) ?_)
  intro g'
  refine ls_rest lsCodes (by rfl) ?_ (.inr ⟨_, by k_mem, rfl, _, rfl⟩) ?_ ?_
  · intro i hi
    iterate 18 (rcases i with _ | i; · exact ⟨_, rfl⟩)
    exact absurd hi (by show ¬ (_ < 18); omega)
  · intro c t' I oI C oC D m₂ ys nw h tk E' hc hC hx F N off ne
    k_steps
    rename (I < _ ∧ C < _ ∧ D < _ ∧ AllLt _ nw) => hl1
    exact LCg.CompEnd.intro (by assumption) (by assumption) (_ :: nw) sub4 ⟨⟨Nat.ne_of_gt hl1.1, Nat.ne_of_gt hl1.2.1, Nat.ne_of_gt hl1.2.2.1⟩, off⟩ trivial ⟨_, _, _, rfl, rfl⟩
  · intro ys nw hty hsub
    k_steps
    unfold Stop
    k_here
    have hl18 : ys.length = 18 := hty.len
    k_dflt (refine add_arrays (by k_asm) (by k_asm) (News.isList (by k_asm) (.tail _ (hsub _ (by k_mem)))) (News.isList (by k_asm) (.head _)) ?_ (by rw [PySem.sizeLine_eq, List.size_toArray, List.size_toArray, hl18]; exact Nat.le_of_ble_eq_true rfl))
    intro h2 F2 N2
    k_steps
    k_here
    have hk1 := Int.fmod_nonneg_of_pos k (show (0 : Int) < 24 by decide)
    have hk2 := Int.fmod_lt_of_pos k (show (0 : Int) < 24 by decide)
    have hix : (Int.fmod k 24).toNat < ls24.length := by rw [ls_len]; omega
    have hall : PairsAre nw (_ ++ ys) ls24 := hty.pairs.app (.cons (hsub _ (by k_mem)) (.cons (hsub _ (by k_mem)) (.cons (hsub _ (by k_mem)) (.cons (hsub _ (by k_mem)) (.cons (hsub _ (by k_mem)) (.cons (hsub _ (by k_mem)) .nil))))))
    obtain ⟨T, t1, u1, hT, hm⟩ := hall.at hix
    k_dflt (refine item_list (x := .ref T) (News.isList (by k_asm) (.head _)) hk1 (by omega) (by rw [List.getElem?_toArray]; exact hT) ?_)
    k_steps
    exact hret T _ _ t1 u1 (by assumption) (by
      refine' cb_drop ?cbN ?cbS
      case cbN => assumption
      case cbS =>
        intro p hp
        rcases List.mem_cons.mp hp with rfl | hp
        · exact .tail _ (.tail _ hm)
        · exact .tail _ (.tail _ (hsub p (by repeat first | exact hp | apply List.Mem.tail))))
end Mine

end
section
open PySem PySem.W PyProof.Rows PySem.Builtin PySem.Builtin.Str PySem.Calls PySem.Builtin.BaseException
set_option Elab.async false
set_option maxRecDepth 100000
set_option linter.unusedVariables false
namespace Mine
set_option maxHeartbeats 1000000
section
variable {prog : Program} {w : World} {A : Around} {E : Value → Shared → Prop} {s : Shared} {e t0 C : Addr} {oe : Obj} {ws : Array Value} {K : Frag}
theorem bexcArgsO {M : Model} {items : List Value} {Q : Value × List Value → Shared → Prop} (ho : s.heap.get? e = some oe) (hd : oe.data = .fields ws) (h0 : ws[0]? = some (.ref t0)) (ht : s.heap.TupAt t0 items) (hq : Q (.ref t0, items) s) :
    wpAny M A (bexcArgs (.ref e)) Q E s := by
  obtain ⟨ot, k, hto, _, htd⟩ := ht
  unfold bexcArgs
  refine wpAny_bind (wpAny_field ho hd h0 (wpAny_bind (wpAny_seqItems hto htd ?_)))
  have : items.toArray.toList = items := by simp
  show wpAny M A (pure (Value.ref t0, items.toArray.toList)) Q E s
  rw [this]; exact wpAny_pure hq
theorem entryO {m : PySem.Str} {tk : Tok} {Q : Fin → Shared → Prop} (ho : s.heap.get? e = some oe) (hd : oe.data = .fields ws) (h0 : ws[0]? = some (.ref t0)) (ht : s.heap.TupAt t0 [.str m tk]) (hq : Q (.done (.ret (.str m tk))) s) :
    wpAny (model prog w) A (Builtin.«BaseException.__str__» ⟨[.ref e], []⟩) Q E s := by
  unfold Builtin.«BaseException.__str__»
  repeat (first | with_reducible refine bexcArgsO ho hd h0 ht ?_ | wp_step)
  exact hq
theorem typeO {M : Model} {h : Heap} (ho : h.get? e = some oe) (hc : oe.cls = .ref C) : Looks M h (typeOf (.ref e)) (.ref C) := hc ▸ (Looks.ld ho).andThen .now
theorem callO {m : PySem.Str} {tk : Tok} {Q : Value → Shared → Prop} (X : K.In s.heap) (ho : s.heap.get? e = some oe) (hc : oe.cls = .ref C) (hd : oe.data = .fields ws) (h0 : ws[0]? = some (.ref t0)) (ht : s.heap.TupAt t0 [.str m tk])
    (hi : subIn K (.ref C) (.type "BaseException") = some true) (hq : Q (.str m tk) s) :
    wpAny (model prog w) A (call (.builtin "BaseException.__str__") [.ref e]) Q E s := by
  refine wpAny_call (codeAny_call_builtin PySem.F.excStr_Exception.str.plain F.entry_bexc_str (check_slot (i := "BaseException.__str__") (owner := "BaseException") (n := "__str__") (by decide +kernel) (by decide +kernel) ((typeO ho hc).andThen (looks_subIn X hi)) (F.args_bexc_str _) ?_))
  exact wpAny_mono (entryO (Q := fun fin s' => ∃ v, fin = .done (.ret v) ∧ Q v s') ho hd h0 ht ⟨_, rfl, hq⟩) (fun fin s' h' => by obtain ⟨v, rfl, hv⟩ := h'; exact hv) fun _ _ h' => h'
theorem strOfO {m : PySem.Str} {tk : Tok} {Q : Value → Shared → Prop} (hu : A.units < cLine) (X : K.In s.heap) (ho : s.heap.get? e = some oe) (hc : oe.cls = .ref C) (hd : oe.data = .fields ws) (h0 : ws[0]? = some (.ref t0)) (ht : s.heap.TupAt t0 [.str m tk])
    (hs : findIn K (.ref C) "__str__" = some (some (.builtin "BaseException.__str__"))) (hi : subIn K (.ref C) (.type "BaseException") = some true) (hq : Q (.str m tk) s) :
    wpAny (model prog w) A (strOf (.ref e)) Q E s := by
  unfold PySem.Builtin.Str.strOf
  rw [show isExactStr (.ref e) = false from rfl]
  refine wpAny_bind (m := cRoomFor _ _) (wpAny_cRoomFor hu ?_)
  refine wpAny_bind (m := callSpecial? (.ref e) (PySem.Str.ofString "__str__")) ?_
  refine wpAny_bind (wpAny_bind ((typeO ho hc).here ((looks_findIn X hs).here (wpAny_holding (wpAny_bind ?_)))))
  rw [PySem.F.excStr_Exception.str.bind]
  refine wpAny_pure (wpAny_bind (wpAny_mono (callO X ho hc hd h0 ht hi (Q := fun r s' => r = .str m tk ∧ Q r s') ⟨rfl, hq⟩) (fun r s' hr => ?_) fun _ _ y => y))
  obtain ⟨rfl, hr⟩ := hr
  exact wpAny_pure (wpAny_pure hr)
theorem strO {m : PySem.Str} {tk : Tok} {Q : Value → Shared → Prop} (hu : A.units + 2 < cLine) (X : K.In s.heap) (ho : s.heap.get? e = some oe) (hc : oe.cls = .ref C) (hd : oe.data = .fields ws) (h0 : ws[0]? = some (.ref t0)) (ht : s.heap.TupAt t0 [.str m tk])
    (hs : findIn K (.ref C) "__str__" = some (some (.builtin "BaseException.__str__"))) (hi : subIn K (.ref C) (.type "BaseException") = some true) (h : Q (.str m tk) s) :
    wpAny (model prog w) A (call (.type "str") [.ref e]) Q E s :=
  callType_new F.called_str (by decide) (F.typeCall_str_1 _) (F.newCall_str_1 _) (fun obj => F.args_object_init_2 obj _) F.entry_str_new
    (meets_str_new (S := fun A' R s' => A'.units + 1 < cLine ∧ (K.In s'.heap ∧ s'.heap.get? e = some oe) ∧ s'.heap.TupAt t0 [.str m tk] ∧ R (.ok (.ret (.str m tk))) s')
      fun _ _ A' _ _ hq => strOfO (A := A'.in1) hq.1 hq.2.1.1 hq.2.1.2 hc hd h0 hq.2.2.1 hs hi hq.2.2.2)
    ⟨(show A.units + 1 + 1 < cLine from hu), ⟨X, ho⟩, ht, typeIs_str _ _ _, h⟩
theorem strGot {h₀ : Heap} {L : Addr} {news : List (Addr × Obj)} {m : PySem.Str} {tk : Tok} {Q : Value → Shared → Prop} (hu : A.units + 2 < cLine) (X : K.In s.heap) (N : News h₀ L s.heap news) (G : Got news e t0 (.ref C) [.str m tk])
    (hs : findIn K (.ref C) "__str__" = some (some (.builtin "BaseException.__str__"))) (hi : subIn K (.ref C) (.type "BaseException") = some true) (h : Q (.str m tk) s) :
    wpAny (model prog w) A (call (.type "str") [.ref e]) Q E s := by
  obtain ⟨oe, ot, ws, nt, h1, h2, hc, hd, h0, htc, htd⟩ := G
  exact strO hu X (N.get h1) hc hd h0 ⟨ot, nt, N.get h2, htc, htd⟩ hs hi h
theorem strGotF {h₀ : Heap} {L : Addr} {mm : PySem.Str → Option Value} {news : List (Addr × Obj)} {m : PySem.Str} {tk : Tok} {Q : Value → Shared → Prop} (hu : A.units + 2 < cLine) (X : (Mine.K w.params).In h₀) (F : Fr h₀ L s.heap mm) (N : News h₀ L s.heap news) (G : Got news e t0 (.ref 54) [.str m tk]) (h : Q (.str m tk) s) :
    wpAny (model prog w) A (call (.type "str") [.ref e]) Q E s := strGot hu (X.keeps F.keep) N G (by kernel_rfl) (by kernel_rfl) h
end
end Mine

end
section
open PySem PySem.W PyProof.Rows
set_option Elab.async false
set_option maxRecDepth 100000
set_option linter.unusedVariables false
namespace Mine
local macro_rules | `(tactic| walk_at "call ref") => `(tactic| (k_here; with_reducible refine Stop.intro ?_))
set_option maxHeartbeats 2000000 in
theorem handS {w : World} {mean : ExcName → Option Value} {mg mb : Str → Option Value} {news : List (Addr × Obj)} (v : Str) (t t' : Tok) :
  ∀ (dp un : Nat) (gd : Option (List Code)) (cn : Str) (cs : Scope) (ad : Addr) (ccd : Value) (cl : List (Str × Addr)) (outer : List Env) (A₀ : Around) (base h₀ : Heap) (L : Addr) (m : Str → Option Value) (s : Shared) (Q E : Value → Shared → Prop),
    Below A₀ base outer h₀ → Fr h₀ L s.heap m → (K w.params).In h₀ → News h₀ L s.heap news → Top q01 (looseW q01 loose01) mean mg mb h₀ → cs.kind = .function →
    (v.length ≤ 400000) → dp + 3 < recursionLimit → un + 24 < cLine →
    (∀ (h' : Heap) (tk : Nat) (t : Tok), Fr h₀ L h' m → News h₀ L h' news → Q (.str (quoteS v) t) { s with heap := h', toks := tk }) →
      wpAny (model PySem.Challenge.rw_tr0050_01.prog w) (ktrTop dp un gd cn cs L ad ccd cl outer) (call (.ref 175) [.str (Str.ofString "send") t, .str v t']) Q E s := by
  k_fill
  intros
  rename_i hpre hdp hun hret
  refine wpAny_call ?_
  k_dflt cell_enter
  k_steps
  unfold Stop
  k_here
  k_dflt (refine quote _ _ _ _ _ _ _ _ _ _ _ _ _ _ _ _ _ _ _ (by k_asm) (by k_asm) (by k_asm) (by k_asm) (by k_asm) (by first | exact rfl | assumption) (by first | assumption | omega) (by ktr_room) (by ktr_units) ?_)
  intro t9 h9 tk9 F9 N9
  try dsimp only
  k_steps
  exact hret _ _ _ (by assumption) (by assumption)
end Mine

end
section
open PySem PySem.W PyProof.Rows
set_option Elab.async false
set_option maxRecDepth 100000
set_option linter.unusedVariables false
namespace Mine
noncomputable def tcG (c : Nat) : Option Str := if isB1 c = true then none else some (mapF ⟨#[c]⟩)
theorem tc_end {news : List (Addr × Obj)} {c : Nat} {t : Tok} (h : isB1 c = false) : TcEl news (tcG c) (.str (mapF ⟨#[c]⟩) t) news := ⟨rfl, mapF ⟨#[c]⟩, t, by unfold tcG; rw [h]; rfl, rfl⟩
theorem tc_no {news : List (Addr × Obj)} {c : Nat} (h : isB1 c = true) : TcNo news (tcG c) news := ⟨rfl, by unfold tcG; rw [h]; rfl⟩
theorem hsz01 {v : Str} (h : v.length ≤ 400000) : v.cps.size ≤ 16777216 := Nat.le_trans h (by decide)
theorem sz01 {v : Str} (h : v.length ≤ 400000) : v.cps.size ≤ sizeLine := by rw [PySem.sizeLine_eq]; exact hsz01 h
noncomputable def prepS (v : Str) : Str := Str.join (S "") (v.cps.toList.filterMap tcG)
theorem low1 {v : Str} {c : Nat} (h : ∀ c ∈ v.cps.toList, (Txt.lower ⟨#[c]⟩).length ≤ 1000) (hc : c ∈ v.cps.toList) : (⟨#[c]⟩ : Str).length = 1 ∧ (Txt.lower ⟨#[c]⟩).length ≤ 1000 := ⟨rfl, h c hc⟩
theorem joinP {prog : Program} {w : World} {A : Around} {Q E : Value → Shared → Prop} {s : Shared} {t : Tok} {D : Addr} {items : Array Value} {v : Str}
    (hl : s.heap.IsList D items) (hi : StrsAre items.toList (v.cps.toList.filterMap tcG)) (hn : ((v.cps.toList.filterMap tcG).map (·.length)).sum + (v.cps.toList.filterMap tcG).length * (Str.ofString "").length ≤ 16777216)
    (h : ∀ t' k, Q (.str (prepS v) t') { s with toks := k }) : wpAny (model prog w) A (call (.builtin "str.join") [.str (Str.ofString "") t, .ref D]) Q E s := by
  refine join_list hl hi hn fun t' k => ?_
  have e : Txt.join (Str.ofString "") (v.cps.toList.filterMap tcG) = prepS v := StrLaws.glued_eq_join _ _
  rw [e]
  exact h t' k
local macro_rules | `(tactic| walk_at "eval ListComp") => `(tactic| (k_here; k_dflt (refine tc_comp (F₀ := by k_asm) (by with_unfolding_all rfl) (by decide) (by rfl) (by decide) (by rfl) ?_)))
local macro_rules | `(tactic| walk_at "TcSrc") => `(tactic| (k_here; k_dflt (refine ⟨_, _, _, rfl, by rfl, by k_asm, by k_asm, by exact sz01 (by assumption), ?_⟩); intro s₂ hs₂; obtain ⟨g', hs₂⟩ := hs₂; subst hs₂; k_dflt (refine tc_rest tcG ?_ ?_)))
local macro_rules | `(tactic| walk_at "TcEl") => `(tactic| (k_here; k_dflt (exact tc_end (by first | assumption | simpa using (by assumption)))))
local macro_rules | `(tactic| walk_at "TcNo") => `(tactic| (k_here; k_dflt (exact tc_no (by first | assumption | simpa using (by assumption)))))
local macro_rules | `(tactic| walk_at "CompEnd") => `(tactic| (k_here; k_dflt (refine LCg.CompEnd.intro (by k_asm) (by k_asm) _ (fun p hp => hp) (by first | assumption | lcg_off) trivial ?_)))
local macro_rules | `(tactic| walk_at "call ref") => `(tactic| (k_here; with_reducible refine Stop.intro ?_))
local macro_rules | `(tactic| walk_at "call builtin:str.join") => `(tactic| (k_here; k_dflt (refine joinP (News.isList (by k_asm) (by k_mem)) (by with_reducible assumption) (by assumption) ?_); intro tj9 kj9))
set_option maxHeartbeats 2000000 in
theorem handP {w : World} {mean : ExcName → Option Value} {mg mb : Str → Option Value} {news : List (Addr × Obj)} (v : Str) (t t' : Tok) :
  ∀ (dp un : Nat) (gd : Option (List Code)) (cn : Str) (cs : Scope) (ad : Addr) (ccd : Value) (cl : List (Str × Addr)) (outer : List Env) (A₀ : Around) (base h₀ : Heap) (L : Addr) (m : Str → Option Value) (s : Shared) (Q E : Value → Shared → Prop),
    Below A₀ base outer h₀ → Fr h₀ L s.heap m → (K w.params).In h₀ → News h₀ L s.heap news → Top q01 (looseW q01 loose01) mean mg mb h₀ → cs.kind = .function →
    (v.length ≤ 400000 ∧ (∀ c ∈ v.cps.toList, (Txt.lower ⟨#[c]⟩).length ≤ 1000) ∧ ((v.cps.toList.filterMap tcG).map (·.length)).sum + (v.cps.toList.filterMap tcG).length * (Str.ofString "").length ≤ 16777216) → dp + 3 < recursionLimit → un + 24 < cLine →
    (∀ (h' : Heap) (tk : Nat) (t : Tok), Fr h₀ L h' m → News h₀ L h' news → Q (.str (prepS v) t) { s with heap := h', toks := tk }) →
      wpAny (model PySem.Challenge.rw_tr0050_01.prog w) (ktrTop dp un gd cn cs L ad ccd cl outer) (call (.ref 175) [.str (Str.ofString "prepare") t, .str v t']) Q E s := by
  k_fill
  intros
  rename_i hpre hdp hun hret
  obtain ⟨hp1, hp2, hp3⟩ := hpre
  refine wpAny_call ?_
  k_dflt cell_enter
  k_steps
  · unfold Stop
    k_here
    k_dflt (refine inb1 _ _ _ _ _ _ _ _ _ _ _ _ _ _ _ _ _ _ _ (by k_asm) (by k_asm) (by k_asm) (by k_asm) (by k_asm) (by first | exact rfl | assumption) (by rfl) (by ktr_room) (by ktr_units) ?_)
    intro t9 h9 tk9 F9 N9
    try dsimp only
    k_steps
    unfold Stop
    k_here
    k_dflt (refine mapb3 _ _ _ _ _ _ _ _ _ _ _ _ _ _ _ _ _ _ _ (by k_asm) (by k_asm) (by k_asm) (by k_asm) (by k_asm) (by first | exact rfl | assumption) (by exact low1 (by assumption) (by assumption)) (by ktr_room) (by ktr_units) ?_)
    intro t9 h9 tk9 F9 N9
    try dsimp only
    k_steps
  exact hret _ _ _ (by assumption) (by refine' cb_drop ?cbN ?cbS; (case cbN => assumption); (case cbS => kcj_all))
end Mine

end
section
open PySem PySem.W PyProof.Rows
set_option Elab.async false
set_option maxRecDepth 100000
set_option linter.unusedVariables false
namespace Mine
local macro_rules | `(tactic| walk_at "exec") => `(tactic| ((with_reducible show wpAny _ _ (exec (Stmt.While _ _ _ _) _) _ _ _); with_reducible refine Stop.intro ?_))
local macro_rules | `(tactic| walk_at "call ref") => `(tactic| (k_here; (with_reducible show wpAny _ _ (call (Value.ref 63) _) _ _ _); with_reducible refine Stop.intro ?_))
local macro_rules | `(tactic| walk_at "call type:str") => `(tactic| (k_here; (rename Got _ _ _ _ _ => gX); k_dflt (refine strGotF (by first | ktr_units | omega | units_room | k_units) (by k_asm) (by k_asm) (by k_asm) gX ?_)))
set_option maxHeartbeats 1000000 in
theorem handR {w : World} {mean : ExcName → Option Value} {mg mb : Str → Option Value} {news : List (Addr × Obj)} (v : Str) (t t' : Tok) :
  ∀ (dp un : Nat) (gd : Option (List Code)) (cn : Str) (cs : Scope) (ad : Addr) (ccd : Value) (A₀ : Around) (h₀ : Heap) (L : Addr) (m : Str → Option Value) (s : Shared) (Q E : Value → Shared → Prop),
    Below A₀ h₀ [] h₀ → Fr h₀ L s.heap m → (K w.params).In h₀ → News h₀ L s.heap news → Top q01 (looseW q01 loose01) mean mg mb h₀ → cs.kind = .function →
    (v.length ≤ 400000) → dp + 3 < recursionLimit → un + 24 < cLine →
    (v.cps.toList.take 3 = [50, 53, 55] → ∀ (h' : Heap) (tk : Nat) (t : Tok), Fr h₀ L h' m → News h₀ L h' news → Q (.str (pF v) t) { s with heap := h', toks := tk }) →
    (¬ v.cps.toList.take 3 = [50, 53, 55] → ∀ (B : Addr) (h' : Heap) (tk : Nat), Fr h₀ L h' m → News h₀ L h' ((B, listOf #[.bool true] 0) :: news) → Q (.ref B) { s with heap := h', toks := tk }) →
      wpAny (model PySem.Challenge.rw_tr0050_01.prog w) (ktrTop dp un gd cn cs L ad ccd [] []) (call (.ref 175) [.str (Str.ofString "read") t, .str v t']) Q E s := by
  k_with "state" => first
    | exact ⟨Int.le_refl _, by omega, by simp; omega, pinv_start _⟩
    | exact ⟨by omega, by omega, by rw [app_len, item_len]; omega, pinv_two (by assumption) (by omega) (by omega) (by assumption) (by assumption)⟩
    | exact ⟨by omega, by omega, by rw [app_len, item_len]; omega, pinv_other (by assumption) (by omega) (by omega) (by assumption)⟩
  k_with "measure" => omega
  k_fill
  intro dp un gd cn cs ad ccd A₀ h₀ L m s Q E z1 z2 z3 z4 z5 z6 hpre hdp hun hret hbad
  refine wpAny_call ?_
  refine' code_defS0 ?k1 ?k2 ?k3 ?k4 ?k5 ?kA ?k6 ?k7 ?k8 ?k9 ?kB ?_ ?cK ?c2 ?c3 ?c4 ?c5
  case kA => exact rfl
  case k2 => k_asm
  case k1 => k_asm
  case k3 => k_asm
  case k4 => k_asm
  case k5 => k_asm
  case k6 => k_is
  case k7 => k_is
  case k8 => (show dp < recursionLimit; omega)
  case k9 => first | exact binds_K (by k_in) rfl (by k_is) rfl rfl rfl | exact BindsTo.of_eq rfl
  case kB => exact locs rfl
  case cK => assumption
  case c2 => exact rfl
  case c3 => exact rfl
  case c4 => exact rfl
  case c5 => decide
  intro g' L' h' FG' F' N' B' X' T' D'
  try dsimp only
  try k_lift B'
  try k_fold
  k_steps
  unfold Stop
  k_here
  k_dflt (refine wpAny_call ?_; (refine' code_defS ?k1 ?k2 ?k3 ?k4 ?k5 ?XB ?TB ?D ?T0 ?kA ?k6 ?k7 ?k8 ?k9 ?kB ?_ ?cK ?c2 ?c3 ?c4 ?c5; (case kA => exact rfl); (case k2 => k_asm); (case k1 => k_asm); (case XB => assumption); (case TB => assumption); (case D => assumption); (case T0 => first | assumption | exact KtsTurn.refl); (case k3 => k_asm); (case k4 => k_asm); (case k5 => k_asm); (case k6 => k_is); (case k7 => k_is); (case k8 => ktr_room); (case k9 => first | exact binds_K (by k_in) rfl (by k_is) rfl rfl rfl | exact BindsTo.of_eq rfl); (case kB => exact locs rfl); (case cK => first | exact rfl | assumption); (case c2 => exact rfl); (case c3 => exact rfl); (case c4 => exact rfl); (case c5 => decide); k_whole; intro g' L' h' FG' F' N' B' X' T' D'; (try dsimp only); (try k_lift B'); (try k_fold)))
  k_steps
  · have e1 := is_257 v
    rename (Txt.slice v none (some 3) != _) = true => f1
    rw [f1] at e1
    have hbad2 : ∀ (B : Addr) (h' : Heap) (tk : Nat), Fr h₀ L h' m → News h₀ L h' ((B, listOf #[.bool (v == v)] 0) :: news) → Q (.ref B) { s with heap := h', toks := tk } := fun B h' tk F N => hbad (by simpa using e1.symm) B h' tk F (by
      have hv9 : (v == v) = true := by simp
      rw [hv9] at N
      exact N)
    exact hbad2 _ _ _ (by assumption) (by refine' cb_drop ?cbN ?cbS; (case cbN => assumption); (case cbS => kcj_all))
  · have e1 := is_257 v
    have e2 := is_q v
    rename (Txt.slice v none (some 3) != _) = false => f1
    rename (Txt.slice v (some 3) (some 5) != _) = true => f2
    rw [f1] at e1
    rw [f2] at e2
    have g1 : v.cps.toList.take 3 = [50, 53, 55] := by simpa using e1
    have e : pF v = PySem.Str.ofString "" := by
      unfold pF
      rw [if_neg (by simpa using e2.symm)]
      decide +kernel
    have hret := hret (by simpa using g1)
    rw [e] at hret
    exact hret _ _ _ (by assumption) (by first | assumption | (refine' cb_drop ?cbN ?cbS; (case cbN => assumption); (case cbS => kcj_all)))
  · unfold Stop
    have e1 := is_257 v
    have e2 := is_q v
    rename (Txt.slice v none (some 3) != _) = false => f1
    rename (Txt.slice v (some 3) (some 5) != _) = false => f2
    rw [f1] at e1
    rw [f2] at e2
    have g1 : v.cps.toList.take 3 = [50, 53, 55] := by simpa using e1
    have g2 : (v.cps.toList.drop 3).take 2 = [32, 34] := by simpa using e2
    have g5 := len_ge5 g2
    have hret := hret (by simpa using g1)
    k_while_given ["resp"] (fun resp script i dirname => 5 ≤ i ∧ i ≤ (resp.length : Int) ∧ (dirname.length : Int) ≤ i ∧ PInv resp i dirname) (fun resp script i dirname => (1000001 - i).toNat) "i" "dirname"
    k_steps
    · rw [pF_of g2 (pinv_end1 (by assumption) (by omega) (by omega) (by omega) (by assumption))] at hret
      exact hret _ _ _ (by assumption) (by first | assumption | (refine' cb_drop ?cbN ?cbS; (case cbN => assumption); (case cbS => kcj_all)))
    · rw [pF_of g2 (pinv_end2 (by assumption) (by omega) (by omega) (by assumption) (by assumption))] at hret
      exact hret _ _ _ (by assumption) (by first | assumption | (refine' cb_drop ?cbN ?cbS; (case cbN => assumption); (case cbS => kcj_all)))
    · rw [pF_of g2 (pinv_out (by assumption) (by assumption))] at hret
      exact hret _ _ _ (by assumption) (by first | assumption | (refine' cb_drop ?cbN ?cbS; (case cbN => assumption); (case cbS => kcj_all)))
end Mine

end
section
open PySem PySem.W PyProof.Rows
set_option Elab.async false
set_option maxRecDepth 100000
set_option linter.unusedVariables false
namespace Mine
set_option maxHeartbeats 1000000 in
theorem handL {w : World} {mean : ExcName → Option Value} {mg mb : Str → Option Value} {news : List (Addr × Obj)} (hnd : Str) (B : Addr) (t : Tok) :
  ∀ (dp un : Nat) (gd : Option (List Code)) (cn : Str) (cs : Scope) (ad : Addr) (ccd : Value) (cl : List (Str × Addr)) (outer : List Env) (A₀ : Around) (base h₀ : Heap) (L : Addr) (m : Str → Option Value) (s : Shared) (Q E : Value → Shared → Prop),
    Below A₀ base outer h₀ → Fr h₀ L s.heap m → (K w.params).In h₀ → News h₀ L s.heap ((B, listOf #[.bool true] 0) :: news) → Top q01 (looseW q01 loose01) mean mg mb h₀ → cs.kind = .function →
    True → dp + 3 < recursionLimit → un + 24 < cLine →
    (∀ (h' : Heap) (tk : Nat), Fr h₀ L h' m → News h₀ L h' ((B, listOf #[.bool true] 0) :: news) → Q (.ref B) { s with heap := h', toks := tk }) →
      wpAny (model PySem.Challenge.rw_tr0050_01.prog w) (ktrTop dp un gd cn cs L ad ccd cl outer) (call (.ref 175) [.str hnd t, .ref B]) Q E s := by
  k_fill
  intros
  rename_i hpre hdp hun hret
  refine wpAny_call ?_
  k_dflt cell_enter
  k_steps
  all_goals (first | exact hret _ _ (by assumption) (by assumption) | (fail "open"))
end Mine

end
section
open PySem PySem.W PyProof.Rows
set_option Elab.async false
set_option maxRecDepth 100000
set_option linter.unusedVariables false
namespace Mine
noncomputable def kindS (k : Nat) : Str := if k = 0 then S "quote" else if k = 1 then S "unseen" else if k = 2 then S "dot" else if k = 3 then S "return" else if k = 4 then S "feed" else S "lasting"
noncomputable def itD (i : It) : Dat := .tuple [.str (kindS i.1), .str ⟨#[i.2.1]⟩, .str ⟨i.2.2.toArray⟩]
theorem str_eta (s : Str) : (⟨s.cps.toList.toArray⟩ : Str) = s := by cases s; simp
theorem cw_q {n : Int} (h : Int.fmod n 8 < 2) : Dat.tuple [.str (S "quote"), .str (S "\""), .str (S "\"")] = itD (itF n) := by
  unfold itF; rw [if_pos h]; rfl
theorem cw_u {n : Int} (h1 : ¬ Int.fmod n 8 < 2) (h : Int.fmod n 8 = 2) : Dat.tuple [.str (S "unseen"), .str (Str.mk #[unC (Int.fdiv n 8)]), .str (S "")] = itD (itF n) := by
  unfold itF; rw [if_neg h1, if_pos h]; rfl
theorem cw_d {n : Int} (h1 : ¬ Int.fmod n 8 < 2) (h2 : ¬ Int.fmod n 8 = 2) (h : Int.fmod n 8 = 3) : Dat.tuple [.str (S "dot"), .str (S "."), .str (S ".")] = itD (itF n) := by
  unfold itF; rw [if_neg h1, if_neg h2, if_pos h]; rfl
theorem cw_r {n : Int} (h1 : ¬ Int.fmod n 8 < 2) (h2 : ¬ Int.fmod n 8 = 2) (h3 : ¬ Int.fmod n 8 = 3) (h : Int.fmod n 8 = 4) : Dat.tuple [.str (S "return"), .str (S "\r"), .str (S "\r")] = itD (itF n) := by
  unfold itF; rw [if_neg h1, if_neg h2, if_neg h3, if_pos h]; rfl
theorem cw_f {n : Int} (h1 : ¬ Int.fmod n 8 < 2) (h2 : ¬ Int.fmod n 8 = 2) (h3 : ¬ Int.fmod n 8 = 3) (h4 : ¬ Int.fmod n 8 = 4) (h : Int.fmod n 8 = 5) : Dat.tuple [.str (S "feed"), .str (S "\n"), .str (S "\n")] = itD (itF n) := by
  unfold itF; rw [if_neg h1, if_neg h2, if_neg h3, if_neg h4, if_pos h]; rfl
theorem cw_l {n : Int} (h1 : ¬ Int.fmod n 8 < 2) (h2 : ¬ Int.fmod n 8 = 2) (h3 : ¬ Int.fmod n 8 = 3) (h4 : ¬ Int.fmod n 8 = 4) (h5 : ¬ Int.fmod n 8 = 5) : Dat.tuple [.str (S "lasting"), .str (lsF (Int.fdiv n 8)).1, .str (lsF (Int.fdiv n 8)).2] = itD (itF n) := by
  unfold itF; rw [if_neg h1, if_neg h2, if_neg h3, if_neg h4, if_neg h5]
  show _ = Dat.tuple [.str (S "lasting"), .str ⟨#[lsC (Int.fdiv n 8)]⟩, .str ⟨(lsF (Int.fdiv n 8)).2.cps.toList.toArray⟩]
  rw [← (ls_p (Int.fdiv n 8)).1, str_eta]
noncomputable abbrev sgD (n : Int) : Dat := itD (itF n)
theorem sg_step {n : Int} {d : Dat} {pre : List Int} (h : d = sgD n) : pre.map sgD ++ [d] = (pre ++ [n]).map sgD ∧ (pre.map sgD ++ [d]).length = (pre ++ [n]).length := by
  subst h
  exact ⟨by rw [List.map_append]; rfl, by simp⟩
theorem news_ne {h₀ h : Heap} {L a b : Addr} {o o' : Obj} {r : List (Addr × Obj)} {c d : String} (N : News h₀ L h ((a, o) :: (b, o') :: r)) (h1 : o.cls = .type c) (h2 : o'.cls = .type d) (hc : c ≠ d) : @Ne Nat a b := by
  intro e
  have e : a = b := e
  subst e
  have g1 := (N _ (.head _)).1
  have g2 := (N _ (.tail _ (.head _))).1
  have g3 : some o = some o' := g1.symm.trans g2
  injection g3 with g3
  subst g3
  rw [h1] at h2
  injection h2 with h2
  exact hc h2
local macro_rules | `(tactic| k_ne) => `(tactic| with_reducible assumption)
local macro_rules | `(tactic| walk_at "call ref") => `(tactic| (k_here; with_reducible refine Stop.intro ?_))
set_option maxHeartbeats 3000000 in
theorem signs {w : World} {mean : ExcName → Option Value} {mg mb : Str → Option Value} {news : List (Addr × Obj)} (l : Addr) (vs : List Value) (sp : Nat) (ns : List Int) :
  ∀ (dp un : Nat) (gd : Option (List Code)) (cn : Str) (cs : Scope) (ad : Addr) (ccd : Value) (cl : List (Str × Addr)) (outer : List Env) (A₀ : Around) (base h₀ : Heap) (L : Addr) (m : Str → Option Value) (s : Shared) (Q E : Value → Shared → Prop),
    Below A₀ base outer h₀ → Fr h₀ L s.heap m → (K w.params).In h₀ → News h₀ L s.heap ((l, listOf vs.toArray sp) :: news) → Top q01 (looseW q01 loose01) mean mg mb h₀ → cs.kind = .function →
    (IntsAre vs ns ∧ ns.length ≤ 100) → dp + 3 < recursionLimit → un + 24 < cLine →
    (∀ (T : Addr) (us : List Value) (sp' : Nat) (nw : List (Addr × Obj)) (h' : Heap) (tk : Nat), Fr h₀ L h' m → News h₀ L h' ((T, listOf us.toArray sp') :: nw) → (∀ p ∈ (l, listOf vs.toArray sp) :: news, p ∈ nw) → DatAll nw us (ns.map sgD) → Q (.ref T) { s with heap := h', toks := tk }) →
      wpAny (model PySem.Challenge.rw_tr0050_01.prog w) (ktrTop dp un gd cn cs L ad ccd cl outer) (call (.ref 163) [.ref l]) Q E s := by
  k_fill
  intros
  rename_i hpre hdp hun hret
  obtain ⟨hpre, hlen⟩ := hpre
  k_with "pyIter ref" => k_dat (fun pre out => out = pre.map sgD ∧ out.length = pre.length) "signs*"
  k_with "state" => first
    | exact sg_step (cw_q (by omega))
    | exact sg_step (cw_u (by omega) (by omega))
    | exact sg_step (cw_d (by omega) (by omega) (by omega))
    | exact sg_step (cw_r (by omega) (by omega) (by omega) (by omega))
    | exact sg_step (cw_f (by omega) (by omega) (by omega) (by omega) (by omega))
    | exact sg_step (cw_l (by omega) (by omega) (by omega) (by omega) (by omega))
  refine wpAny_call ?_
  k_dflt cell_enter
  k_steps
  all_goals first
    | (unfold Stop; k_here; k_dflt (refine unseen _ _ _ _ _ _ _ _ _ _ _ _ _ _ _ _ _ _ _ (by k_asm) (by k_asm) (by k_asm) (by k_asm) (by k_asm) (by first | exact rfl | assumption) (by trivial) (by ktr_room) (by ktr_units) ?_); intro t9 h9 tk9 F9 N9; (try dsimp only); k_steps)
    | (unfold Stop; k_here; k_dflt (refine lasting _ _ _ _ _ _ _ _ _ _ _ _ _ _ _ _ _ _ _ (by k_asm) (by k_asm) (by k_asm) (by k_asm) (by k_asm) (by first | exact rfl | assumption) (by trivial) (by ktr_room) (by ktr_units) ?_); intro T9 h9 tk9 t9 u9 F9 N9; have hTl9 := news_ne N9 rfl rfl (by decide); (try dsimp only); k_steps)
    | exact hret _ _ _ _ _ _ (by assumption) (by assumption) (fun p hp => by rcases List.mem_cons.mp hp with rfl | hp; exact .head _; exact .tail _ (List.mem_append.mpr (.inl hp))) (by assumption)
end Mine

end
section
open PySem PySem.W PySem.Spec PySem.Calls PyProof.Rows
set_option Elab.async false
set_option maxRecDepth 100000
set_option linter.unusedVariables false
namespace Mine
/-- the state of the walk's frame -/
noncomputable abbrev mW (a b c : Option Value) (told : PySem.Str) (t : Tok) (av : PySem.Str) (u : Tok) (half : Bool) (r : PySem.Str → Option Value) : PySem.Str → Option Value :=
  fun y => if y = PySem.Str.ofString "kind" then a else if y = PySem.Str.ofString "sign" then b else if y = PySem.Str.ofString "fold" then c else if y = PySem.Str.ofString "told" then some (.str told t) else if y = PySem.Str.ofString "ahead" then some (.str av u) else if y = PySem.Str.ofString "half" then some (.bool half) else r y
structure WSt (br bs : Bool) (r : PySem.Str → Option Value) (final : List Nat) (rest : List It) (m' : PySem.Str → Option Value) (told : PySem.Str) (t : Tok) (ah : Nat) (u : Tok) (half : Bool) : Prop where
  m1 : m' (PySem.Str.ofString "told") = some (.str told t)
  m2 : m' (PySem.Str.ofString "ahead") = some (.str (kindS ah) u)
  m3 : m' (PySem.Str.ofString "half") = some (.bool half)
  mr : ∀ y, y ≠ PySem.Str.ofString "kind" → y ≠ PySem.Str.ofString "sign" → y ≠ PySem.Str.ofString "fold" → y ≠ PySem.Str.ofString "told" → y ≠ PySem.Str.ofString "ahead" → y ≠ PySem.Str.ofString "half" → m' y = r y
  w : told.cps.toList ++ walkL br bs ah half rest = final
  l : told.length + 3 * rest.length ≤ 600
theorem WSt.eq {br bs : Bool} {r : PySem.Str → Option Value} {final : List Nat} {rest : List It} {m' : PySem.Str → Option Value} {told : PySem.Str} {t : Tok} {ah : Nat} {u : Tok} {half : Bool} (h : WSt br bs r final rest m' told t ah u half) :
    m' = mW (m' (PySem.Str.ofString "kind")) (m' (PySem.Str.ofString "sign")) (m' (PySem.Str.ofString "fold")) told t (kindS ah) u half r := by
  funext y
  unfold mW
  by_cases h1 : y = PySem.Str.ofString "kind"
  · rw [if_pos h1, h1]
  by_cases h2 : y = PySem.Str.ofString "sign"
  · rw [if_neg h1, if_pos h2, h2]
  by_cases h3 : y = PySem.Str.ofString "fold"
  · rw [if_neg h1, if_neg h2, if_pos h3, h3]
  by_cases h4 : y = PySem.Str.ofString "told"
  · rw [if_neg h1, if_neg h2, if_neg h3, if_pos h4, h4, h.m1]
  by_cases h5 : y = PySem.Str.ofString "ahead"
  · rw [if_neg h1, if_neg h2, if_neg h3, if_neg h4, if_pos h5, h5, h.m2]
  by_cases h6 : y = PySem.Str.ofString "half"
  · rw [if_neg h1, if_neg h2, if_neg h3, if_neg h4, if_neg h5, if_pos h6, h6, h.m3]
  · rw [if_neg h1, if_neg h2, if_neg h3, if_neg h4, if_neg h5, if_neg h6, h.mr y h1 h2 h3 h4 h5 h6]
/-- what is asked of an item -/
noncomputable def WkIt (i : It) : Prop := (i.1 = 0 ∧ i.2.1 = 34) ∨ i.1 = 1 ∨ (i.1 = 2 ∧ i.2.1 = 46 ∧ i.2.2 = [46]) ∨ (i.1 = 3 ∧ i.2.1 = 13 ∧ i.2.2 = [13]) ∨ (i.1 = 4 ∧ i.2.1 = 10 ∧ i.2.2 = [10]) ∨ (i.1 = 5 ∧ i.2.2.length ≤ 3)
theorem datTup3 {news : List (Addr × Obj)} {v : Value} {i : It} (h : DatIn news v (itD i)) : ∃ T t1 t2 t3 n, v = .ref T ∧ (T, ({ cls := .type "tuple", data := .seq #[.str (kindS i.1) t1, .str ⟨#[i.2.1]⟩ t2, .str ⟨i.2.2.toArray⟩ t3] n } : Obj)) ∈ news := by
  unfold itD at h
  cases h with
  | tuple hm hd =>
    cases hd with
    | cons h1 hd => cases hd with
      | cons h2 hd => cases hd with
        | cons h3 hd => cases hd; cases h1; cases h2; cases h3; exact ⟨_, _, _, _, _, rfl, hm⟩
section
variable {prog : Program} {w : World} {A : Around} {E : Value → Shared → Prop} {s : Shared} {h₀ : Heap} {env : Env} {target : Expr} {body : List Stmt} {Q : Flow → Shared → Prop}
theorem walk_rest {I ax : Addr} {lo : Obj} {news : List (Addr × Obj)} {r : PySem.Str → Option Value} {br bs : Bool} {final : List Nat} (hax : (ax, lo) ∈ news) (hI : ∀ p ∈ news, p.1 < I)
    (turn : ∀ (k : Nat) (ks : PySem.Str) (code : Nat) (f : List Nat) (rest : List It) (T : Addr) (a b c : Option Value) (told : PySem.Str) (ah : Nat) (av : PySem.Str) (half : Bool) (t u t1 t2 t3 : Tok) (o' : Obj) (h : Heap) (tk : Nat),
      WkIt (k, code, f) → ks = kindS k → av = kindS ah → told.cps.toList ++ walkL br bs ah half ((k, code, f) :: rest) = final → told.length + 3 * rest.length + 3 ≤ 600 → o'.cls = .type "list_iterator" →
      IsTup h T #[.str ks t1, .str ⟨#[code]⟩ t2, .str ⟨f.toArray⟩ t3] → Fr h₀ env.locals h (mW a b c told t av u half r) → News h₀ env.locals h ((I, o') :: news) →
      wpAny (model prog w) A (assign target env (.ref T)) (fun _ s₂ => wpAny (model prog w) A (execs body env)
        (UnrPostW h₀ env.locals { s with heap := h, toks := tk } [(I, o')] (fun m' n' => n' = news ∧ ∃ told t ah u half, WSt br bs r final rest m' told t ah u half) Q) E s₂) E { s with heap := h, toks := tk })
    (fin : ∀ (a b c : Option Value) (told : PySem.Str) (av : PySem.Str) (half : Bool) (t u : Tok) (h : Heap) (tk : Nat), told.cps.toList = final → Fr h₀ env.locals h (mW a b c told t av u half r) → News h₀ env.locals h news → Q .next { s with heap := h, toks := tk }) :
    ∀ (its : List It) (vs : List Value) (m : PySem.Str → Option Value) (told : PySem.Str) (t : Tok) (ah : Nat) (u : Tok) (half : Bool), DatAll news vs (its.map itD) → (∀ i ∈ its, WkIt i) → WSt br bs r final its m told t ah u half →
      ItemsRest prog w A E h₀ env target body Q s [(I, "list_iterator")] [(ax, lo)] (vs.map .val) m news := by
  intro its
  induction its with
  | nil =>
    intro vs m told t ah u half hd _ hw
    cases hd
    refine ItemsRest.zero fun h tk F N => ?_
    rw [hw.eq] at F
    have e := hw.w
    have e' : told.cps.toList = final := by simpa [walkL] using e
    exact fin _ _ _ told _ half _ _ h tk e' F N
  | cons i its ih =>
    intro vs m told t ah u half hd hi hw
    cases hd with
    | cons h1 hd =>
      rename_i v vs'
      obtain ⟨T, t1, t2, t3, n, rfl, hm⟩ := datTup3 h1
      refine ItemsRest.val fun h tk F => AllObj.cons fun o' hc' => AllObj.nil fun N => ?_
      have N : News h₀ env.locals h ((I, o') :: news) := N
      have hl := hw.l
      rw [List.length_cons] at hl
      have hT : IsTup h T #[.str (kindS i.1) t1, .str ⟨#[i.2.1]⟩ t2, .str ⟨i.2.2.toArray⟩ t3] := News.isTup N (.tail _ hm)
      rw [hw.eq] at F
      obtain ⟨k, code, f⟩ := i
      refine wpAny_mono (turn k _ code f its T _ _ _ told ah _ half _ _ t1 t2 t3 o' h tk (hi _ List.mem_cons_self) rfl rfl hw.w (by omega) hc' hT F N) (fun _ s₂ p => wpAny_mono p (fun f s₃ p => ?_) fun _ _ e => e) fun _ _ e => e
      have up : ∀ s₃, UnrEndW h₀ env.locals { s with heap := h, toks := tk } [(I, o')] (fun m' n' => n' = news ∧ ∃ told t ah u half, WSt br bs r final its m' told t ah u half) s₃ →
          UnrEndW h₀ env.locals { s with heap := h, toks := tk } [(I, o')] (fun m' n' => SubL [(ax, lo)] n' ∧ ItemsRest prog w A E h₀ env target body Q s [(I, "list_iterator")] [(ax, lo)] (List.map Itm.val vs') m' n') s₃ := by
        rintro s₃ ⟨h', tk', m', news', e, F', N', ho, rfl, told', t', ah', u', half', hw'⟩
        exact ⟨h', tk', m', _, e, F', N', ho, ⟨hax, trivial⟩, ih _ _ told' t' ah' u' half' hd (fun i hi' => hi i (List.mem_cons_of_mem _ hi')) hw'⟩
      cases f with
      | ret v => exact p
      | brk => exact p
      | next => exact up s₃ p
      | cont => exact up s₃ p
end
theorem wEnd {h₀ : Heap} {L I : Addr} {o' : Obj} {rest : (PySem.Str → Option Value) → List (Addr × Obj) → Prop} {s₁ : Shared} {h' : Heap} {tk : Nat} {m' : PySem.Str → Option Value} {news : List (Addr × Obj)}
    (hI : ∀ p ∈ news, p.1 < I) (F : Fr h₀ L h' m') (N : News h₀ L h' ((I, o') :: news)) (r : rest m' news) : UnrEndW h₀ L s₁ [(I, o')] rest { s₁ with heap := h', toks := tk } :=
  ⟨h', tk, m', news, rfl, F, N, fun p hp q hq e => by
    rw [List.mem_singleton.mp hq] at e
    have := hI p hp
    exact absurd e (Nat.ne_of_lt this), r⟩
theorem add600 {prog : Program} {w : World} {A : Around} {E : Value → Shared → Prop} {s : Shared} {x y : PySem.Str} {t u : Tok} {Q : Value → Shared → Prop} (hx : x.length ≤ 700) (hy : y.length ≤ 700) (h : ∀ t' tk, Q (.str (x ++ y) t') { s with toks := tk }) :
    wpAny (model prog w) A (binaryOp .Add (.str x t) (.str y u)) Q E s := add_str h (by rw [PySem.sizeLine_eq]; omega)
theorem kind_ret {k : Nat} : (kindS k = PySem.Str.ofString "return") ↔ k = 3 := by
  unfold kindS
  constructor
  · intro h
    split at h
    · exact absurd h (by decide +kernel)
    split at h
    · exact absurd h (by decide +kernel)
    split at h
    · exact absurd h (by decide +kernel)
    split at h
    · assumption
    split at h
    · exact absurd h (by decide +kernel)
    · exact absurd h (by decide +kernel)
  · rintro rfl; rfl
theorem kind_feed {k : Nat} : (kindS k = PySem.Str.ofString "feed") ↔ k = 4 := by
  unfold kindS
  constructor
  · intro h
    split at h
    · exact absurd h (by decide +kernel)
    split at h
    · exact absurd h (by decide +kernel)
    split at h
    · exact absurd h (by decide +kernel)
    split at h
    · exact absurd h (by decide +kernel)
    split at h
    · assumption
    · exact absurd h (by decide +kernel)
  · rintro rfl; rfl
end Mine

end
section
open PySem PySem.W PyProof.Rows
set_option Elab.async false
set_option maxRecDepth 100000
set_option linter.unusedVariables false
namespace Mine
local macro_rules | `(tactic| walk_at "exec For Tuple Name cons nil") => `(tactic| (k_here; (rename Fr _ _ _ _ => lF'); (with_unfolding_all refine' For_turns lF' ?_; k_whole)))
local macro_rules | `(tactic| walk_at "pyIter ref") => `(tactic| (k_here; (with_reducible show wpAny _ _ (pyIter (Value.ref _)) (fun it s₂ => TurnsAt _ _ _ _ _ _ _ _ _ it s₂) _ _); with_reducible refine Stop.intro ?_))
local macro_rules | `(tactic| walk_at "UnrEndW") => `(tactic| (with_reducible refine Stop.intro ?_))
local macro_rules | `(tactic| walk_at "binaryOp Add str str") => `(tactic| (k_here; (with_reducible show wpAny _ _ (binaryOp Operator.Add (Value.str _ _) (Value.str _ _)) _ _ _); k_dflt (refine add600 (by assumption) (by first | assumption | decide +kernel) ?_); intro ta9 ka9))
structure StopMarkA : Prop where
local macro_rules | `(tactic| walk_at "exec Assign") => `(tactic| (k_here; (rename StopMarkA => hm'); (with_reducible show wpAny _ _ (exec (Stmt.Assign [Expr.Name (Str.ofString "ahead") _] _ _) _) _ _ _); (clear hm'); with_reducible refine Stop.intro ?_))
section
variable {prog : Program} {w : World} {A : Around} {E : Value → Shared → Prop} {s : Shared} {h₀ : Heap} {L : Addr} {m : Str → Option Value} {env : Env} {st : Stmt} {Q : Flow → Shared → Prop}
/-- both ways of the choice of ahead meet -/
noncomputable def JnA (h₀ : Heap) (L : Addr) (m : Str → Option Value) (news : List (Addr × Obj)) (x : Str) (s : Shared) (f : Flow) (s' : Shared) : Prop :=
  f = .next ∧ ∃ h' tk t m', s' = { s with heap := h', toks := tk } ∧ Fr h₀ L h' m' ∧ m' (Str.ofString "ahead") = some (.str x t) ∧ (∀ y, y ≠ Str.ofString "ahead" → m' y = m y) ∧ News h₀ L h' news
theorem joinA {news : List (Addr × Obj)} (x : Str) (F : Fr h₀ L s.heap m) (N : News h₀ L s.heap news) (h : wpAny (model prog w) A (exec st env) (JnA h₀ L m news x s) E s)
    (k : ∀ h' tk t, Fr h₀ L h' (fun y => if y = Str.ofString "ahead" then some (.str x t) else m y) → News h₀ L h' news → Q .next { s with heap := h', toks := tk }) :
    wpAny (model prog w) A (exec st env) Q E s := by
  refine wpAny_mono h (fun f s' j => ?_) fun _ _ e => e
  obtain ⟨rfl, h', tk, t, m', rfl, F', e1, e2, N'⟩ := j
  have e : m' = fun y => if y = Str.ofString "ahead" then some (.str x t) else m y := funext fun y => by
    by_cases hy : y = Str.ofString "ahead"
    · rw [if_pos hy, hy, e1]
    · rw [if_neg hy, e2 y hy]
  rw [e] at F'
  exact k h' tk t F' N'
end
theorem kindA {st : Bool} : (st = true → Str.ofString "feed" = kindS (cond st 4 5)) ∧ (st = false → Str.ofString "lasting" = kindS (cond st 4 5)) := ⟨fun h => by rw [h]; rfl, fun h => by rw [h]; rfl⟩
theorem stopOut {P : Prop} (h : P) : Stop P := h
theorem stopIn {P : Prop} (h : Stop P) : P := h
theorem walk_start {br bs : Bool} {r : Str → Option Value} {its : List It} {t u : Tok} (ah : Nat) {av : Str} (hl : its.length ≤ 100) (ha : av = kindS ah) :
    WSt br bs r (walkL br bs ah false its) its (fun y => if y = Str.ofString "half" then some (.bool false) else if y = Str.ofString "ahead" then some (.str av u) else if y = Str.ofString "told" then some (.str (Str.ofString "") t) else r y) (Str.ofString "") t ah u false :=
  ⟨by with_unfolding_all rfl, by subst ha; with_unfolding_all rfl, by with_unfolding_all rfl, fun y _ _ _ h4 h5 h6 => by rw [if_neg h6, if_neg h5, if_neg h4], by rfl, by show 0 + _ ≤ 600; omega⟩
theorem w_app {told x : Str} {f l final : List Nat} (hx : x.cps.toList = f) (h : told.cps.toList ++ (f ++ l) = final) : (told ++ x).cps.toList ++ l = final := by
  rw [str_app, hx, List.append_assoc]; exact h
theorem l_app {told x : Str} {n : Nat} (hx : x.length ≤ 3) (hl : told.length + 3 * n + 3 ≤ 600) : (told ++ x).length + 3 * n ≤ 600 := by rw [app_len]; omega
theorem w_ret {told : Str} {l final : List Nat} (h : told.cps.toList ++ l = final) (e : l = []) : told.cps.toList = final := by rw [e, List.append_nil] at h; exact h
theorem av_r {ah : Nat} (h : (kindS ah == Str.ofString "return") = true) : ah = 3 := kind_ret.mp (eq_of_beq h)
theorem av_nr {ah : Nat} (h : (kindS ah == Str.ofString "return") = false) : ah ≠ 3 := fun e => by rw [kind_ret.mpr e] at h; simp at h
theorem av_f {ah : Nat} (h : (kindS ah == Str.ofString "feed") = true) : ah = 4 := kind_feed.mp (eq_of_beq h)
theorem av_nf {ah : Nat} (h : (kindS ah == Str.ofString "feed") = false) : ah ≠ 4 := fun e => by rw [kind_feed.mpr e] at h; simp at h
theorem av_r2 {ah : Nat} (h : (kindS ah != Str.ofString "return") = false) : ah = 3 := kind_ret.mp (by simpa using h)
theorem av_nr2 {ah : Nat} (h : (kindS ah != Str.ofString "return") = true) : ah ≠ 3 := fun e => by rw [kind_ret.mpr e] at h; simp at h
set_option maxHeartbeats 6000000 in
theorem walk {w : World} {mean : ExcName → Option Value} {mg mb : Str → Option Value} {news : List (Addr × Obj)} (l : Addr) (vs : List Value) (sp : Nat) (its : List It) (br bs st : Bool) :
  ∀ (dp un : Nat) (gd : Option (List Code)) (cn : Str) (cs : Scope) (ad : Addr) (ccd : Value) (cl : List (Str × Addr)) (outer : List Env) (A₀ : Around) (base h₀ : Heap) (L : Addr) (m : Str → Option Value) (s : Shared) (Q E : Value → Shared → Prop),
    Below A₀ base outer h₀ → Fr h₀ L s.heap m → (K w.params).In h₀ → News h₀ L s.heap ((l, listOf vs.toArray sp) :: news) → Top q01 (looseW q01 loose01) mean mg mb h₀ → cs.kind = .function →
    (DatAll ((l, listOf vs.toArray sp) :: news) vs (its.map itD) ∧ its.length ≤ 100 ∧ ∀ i ∈ its, WkIt i) → dp + 3 < recursionLimit → un + 24 < cLine →
    (∀ (v : Str) (t : Tok) (h' : Heap) (tk : Nat), v.cps.toList = walkL br bs (if st then 4 else 5) false its → Fr h₀ L h' m → News h₀ L h' ((l, listOf vs.toArray sp) :: news) → Q (.str v t) { s with heap := h', toks := tk }) →
      wpAny (model PySem.Challenge.rw_tr0050_01.prog w) (ktrTop dp un gd cn cs L ad ccd cl outer) (call (.ref 170) [.ref l, .bool br, .bool bs, .bool st]) Q E s := by
  k_fill
  intros
  rename_i hpre hdp hun hret
  obtain ⟨hpre, hlen, hsh⟩ := hpre
  refine wpAny_call ?_
  k_dflt cell_enter
  have hmA : StopMarkA := ⟨⟩
  k_steps
  unfold Stop
  rename Fr _ _ _ _ => lF0
  rename News _ _ _ _ => lN0
  refine joinA (kindS (cond st 4 5)) lF0 lN0 ?_ ?_
  · refine stopIn (stopOut ?_)
    k_steps
    · exact ⟨rfl, _, _, _, _, rfl, by assumption, by rw [← kindA.1 (by assumption)]; with_unfolding_all rfl, fun y hy => by rw [if_neg hy], by assumption⟩
    · exact ⟨rfl, _, _, _, _, rfl, by assumption, by rw [← kindA.2 (by assumption)]; with_unfolding_all rfl, fun y hy => by rw [if_neg hy], by assumption⟩
  · clear lF0 lN0
    intro h1 tk1 t1 lF lN
    generalize hA : kindS (cond st 4 5) = av1 at lF
    refine stopIn (stopOut ?_)
    k_steps
    unfold Stop
    rename Fr _ _ _ _ => lF
    rename News _ _ _ _ => lN
    with_unfolding_all refine iter_listTurns (vs := vs) (n := sp) (by rfl) lF lN (.head _) (by rfl) (by rfl) ?_
    intro I hI
    with_unfolding_all refine' walk_rest (br := br) (bs := bs) (final := walkL br bs (cond st 4 5) false its) (.head _) hI ?_ ?_ its vs _ _ _ _ _ _ hpre hsh ?ws
    case ws => with_unfolding_all exact walk_start (cond st 4 5) hlen hA.symm
    · intro k ks code f rest T a b c told ah av half t u t1 t2 t3 o' h tk hi hks hav hw hl hc hT F N
      have htl : told.length ≤ 700 := by omega
      have hi : (k = 0 ∧ code = 34) ∨ k = 1 ∨ (k = 2 ∧ code = 46 ∧ f = [46]) ∨ (k = 3 ∧ code = 13 ∧ f = [13]) ∨ (k = 4 ∧ code = 10 ∧ f = [10]) ∨ (k = 5 ∧ f.length ≤ 3) := hi
      rcases hi with ⟨rfl, rfl⟩ | rfl | ⟨rfl, rfl, rfl⟩ | ⟨rfl, rfl, rfl⟩ | ⟨rfl, rfl, rfl⟩ | ⟨rfl, hfl⟩
      · have hks : ks = Str.ofString "quote" := hks
        subst hks
        cases half with
        | false =>
          refine stopIn (stopOut ?_)
          k_steps
          all_goals first
            | (unfold Stop; subst hav; exact wEnd hI (by assumption) (by assumption) ⟨rfl, told, _, 0, _, true, ⟨by with_unfolding_all rfl, by with_unfolding_all rfl, by with_unfolding_all rfl, fun y h1 h2 h3 h4 h5 h6 => by (dsimp only [mW]; repeat (first | rw [if_neg h1] | rw [if_neg h2] | rw [if_neg h3] | rw [if_neg h4] | rw [if_neg h5] | rw [if_neg h6])), by simpa [walkL] using hw, by omega⟩⟩)
            | (fail "open")
        | true =>
          refine stopIn (stopOut ?_)
          k_steps
          all_goals first
            | (unfold Stop; subst hav; exact wEnd hI (by assumption) (by assumption) ⟨rfl, told ++ Str.ofString "\"", _, 0, _, false, ⟨by with_unfolding_all rfl, by with_unfolding_all rfl, by with_unfolding_all rfl, fun y h1 h2 h3 h4 h5 h6 => by (dsimp only [mW]; repeat (first | rw [if_neg h1] | rw [if_neg h2] | rw [if_neg h3] | rw [if_neg h4] | rw [if_neg h5] | rw [if_neg h6])), w_app (f := [34]) (by decide +kernel) (by simpa [walkL] using hw), l_app (by decide +kernel) hl⟩⟩)
            | (fail "open")
      · have hks : ks = Str.ofString "unseen" := hks
        subst hks
        cases half with
        | false =>
          refine stopIn (stopOut ?_)
          k_steps
          all_goals first
            | (unfold Stop; subst hav; exact wEnd hI (by assumption) (by assumption) ⟨rfl, told, _, 1, _, false, ⟨by with_unfolding_all rfl, by with_unfolding_all rfl, by with_unfolding_all rfl, fun y h1 h2 h3 h4 h5 h6 => by (dsimp only [mW]; repeat (first | rw [if_neg h1] | rw [if_neg h2] | rw [if_neg h3] | rw [if_neg h4] | rw [if_neg h5] | rw [if_neg h6])), by simpa [walkL, show bs = true from by assumption] using hw, by omega⟩⟩)
            | (unfold Stop; subst hav; exact wEnd hI (by assumption) (by assumption) ⟨rfl, told, _, _, _, false, ⟨by with_unfolding_all rfl, by with_unfolding_all rfl, by with_unfolding_all rfl, fun y h1 h2 h3 h4 h5 h6 => by (dsimp only [mW]; repeat (first | rw [if_neg h1] | rw [if_neg h2] | rw [if_neg h3] | rw [if_neg h4] | rw [if_neg h5] | rw [if_neg h6])), by simpa [walkL, show bs = false from by assumption] using hw, by omega⟩⟩)
            | (fail "open")
        | true =>
          refine stopIn (stopOut ?_)
          k_steps
          all_goals first
            | (exact hret told _ _ _ (by have e := w_ret hw (by simp [walkL, show br = true from by assumption]); rw [e]; cases st <;> rfl) (by assumption) (by refine' cb_drop ?cbN ?cbS; (case cbN => assumption); (case cbS => kcj_all)))
            | (unfold Stop; subst hav; exact wEnd hI (by assumption) (by assumption) ⟨rfl, told, _, 1, _, true, ⟨by with_unfolding_all rfl, by with_unfolding_all rfl, by with_unfolding_all rfl, fun y h1 h2 h3 h4 h5 h6 => by (dsimp only [mW]; repeat (first | rw [if_neg h1] | rw [if_neg h2] | rw [if_neg h3] | rw [if_neg h4] | rw [if_neg h5] | rw [if_neg h6])), by simpa [walkL, show br = false from by assumption, show bs = true from by assumption] using hw, by omega⟩⟩)
            | (unfold Stop; subst hav; exact wEnd hI (by assumption) (by assumption) ⟨rfl, told, _, _, _, true, ⟨by with_unfolding_all rfl, by with_unfolding_all rfl, by with_unfolding_all rfl, fun y h1 h2 h3 h4 h5 h6 => by (dsimp only [mW]; repeat (first | rw [if_neg h1] | rw [if_neg h2] | rw [if_neg h3] | rw [if_neg h4] | rw [if_neg h5] | rw [if_neg h6])), by simpa [walkL, show br = false from by assumption, show bs = false from by assumption] using hw, by omega⟩⟩)
            | (fail "open")
      · have hks : ks = Str.ofString "dot" := hks
        subst hks
        cases half with
        | false =>
          refine stopIn (stopOut ?_)
          k_steps
          all_goals first
            | (unfold Stop; subst hav; exact wEnd hI (by assumption) (by assumption) ⟨rfl, told ++ Str.ofString "..", _, 2, _, false, ⟨by with_unfolding_all rfl, by with_unfolding_all rfl, by with_unfolding_all rfl, fun y h1 h2 h3 h4 h5 h6 => by (dsimp only [mW]; repeat (first | rw [if_neg h1] | rw [if_neg h2] | rw [if_neg h3] | rw [if_neg h4] | rw [if_neg h5] | rw [if_neg h6])), w_app (f := [46, 46]) (by decide +kernel) (by simpa [walkL, av_r (by assumption)] using hw), l_app (by decide +kernel) hl⟩⟩)
            | (unfold Stop; subst hav; exact wEnd hI (by assumption) (by assumption) ⟨rfl, told ++ Str.ofString "..", _, 2, _, false, ⟨by with_unfolding_all rfl, by with_unfolding_all rfl, by with_unfolding_all rfl, fun y h1 h2 h3 h4 h5 h6 => by (dsimp only [mW]; repeat (first | rw [if_neg h1] | rw [if_neg h2] | rw [if_neg h3] | rw [if_neg h4] | rw [if_neg h5] | rw [if_neg h6])), w_app (f := [46, 46]) (by decide +kernel) (by simpa [walkL, av_f (by assumption)] using hw), l_app (by decide +kernel) hl⟩⟩)
            | (unfold Stop; subst hav; exact wEnd hI (by assumption) (by assumption) ⟨rfl, told ++ ⟨[46].toArray⟩, _, 2, _, false, ⟨by with_unfolding_all rfl, by with_unfolding_all rfl, by with_unfolding_all rfl, fun y h1 h2 h3 h4 h5 h6 => by (dsimp only [mW]; repeat (first | rw [if_neg h1] | rw [if_neg h2] | rw [if_neg h3] | rw [if_neg h4] | rw [if_neg h5] | rw [if_neg h6])), w_app (f := [46]) (by decide +kernel) (by simpa [walkL, av_nr (by assumption), av_nf (by assumption)] using hw), l_app (by decide +kernel) hl⟩⟩)
            | (fail "open")
        | true =>
          refine stopIn (stopOut ?_)
          k_steps
          all_goals first
            | (exact hret told _ _ _ (by have e := w_ret hw (by simp [walkL]); rw [e]; cases st <;> rfl) (by assumption) (by refine' cb_drop ?cbN ?cbS; (case cbN => assumption); (case cbS => kcj_all)))
            | (fail "open")
      · have hks : ks = Str.ofString "return" := hks
        subst hks
        cases half with
        | false =>
          refine stopIn (stopOut ?_)
          k_steps
          all_goals first
            | (unfold Stop; subst hav; exact wEnd hI (by assumption) (by assumption) ⟨rfl, told ++ Str.ofString "\r\n", _, 3, _, false, ⟨by with_unfolding_all rfl, by with_unfolding_all rfl, by with_unfolding_all rfl, fun y h1 h2 h3 h4 h5 h6 => by (dsimp only [mW]; repeat (first | rw [if_neg h1] | rw [if_neg h2] | rw [if_neg h3] | rw [if_neg h4] | rw [if_neg h5] | rw [if_neg h6])), w_app (f := [13, 10]) (by decide +kernel) (by simpa [walkL] using hw), l_app (by decide +kernel) hl⟩⟩)
            | (fail "open")
        | true =>
          refine stopIn (stopOut ?_)
          k_steps
          all_goals first
            | (exact hret told _ _ _ (by have e := w_ret hw (by simp [walkL]); rw [e]; cases st <;> rfl) (by assumption) (by refine' cb_drop ?cbN ?cbS; (case cbN => assumption); (case cbS => kcj_all)))
            | (fail "open")
      · have hks : ks = Str.ofString "feed" := hks
        subst hks
        cases half with
        | false =>
          refine stopIn (stopOut ?_)
          k_steps
          all_goals first
            | (unfold Stop; subst hav; exact wEnd hI (by assumption) (by assumption) ⟨rfl, told ++ Str.ofString "\r\n", _, 4, _, false, ⟨by with_unfolding_all rfl, by with_unfolding_all rfl, by with_unfolding_all rfl, fun y h1 h2 h3 h4 h5 h6 => by (dsimp only [mW]; repeat (first | rw [if_neg h1] | rw [if_neg h2] | rw [if_neg h3] | rw [if_neg h4] | rw [if_neg h5] | rw [if_neg h6])), w_app (f := [13, 10]) (by decide +kernel) (by simpa [walkL, av_nr2 (by assumption)] using hw), l_app (by decide +kernel) hl⟩⟩)
            | (unfold Stop; subst hav; exact wEnd hI (by assumption) (by assumption) ⟨rfl, told, _, 4, _, false, ⟨by with_unfolding_all rfl, by with_unfolding_all rfl, by with_unfolding_all rfl, fun y h1 h2 h3 h4 h5 h6 => by (dsimp only [mW]; repeat (first | rw [if_neg h1] | rw [if_neg h2] | rw [if_neg h3] | rw [if_neg h4] | rw [if_neg h5] | rw [if_neg h6])), by simpa [walkL, av_r2 (by assumption)] using hw, by omega⟩⟩)
            | (fail "open")
        | true =>
          refine stopIn (stopOut ?_)
          k_steps
          all_goals first
            | (exact hret told _ _ _ (by have e := w_ret hw (by simp [walkL]); rw [e]; cases st <;> rfl) (by assumption) (by refine' cb_drop ?cbN ?cbS; (case cbN => assumption); (case cbS => kcj_all)))
            | (fail "open")
      · have hks : ks = Str.ofString "lasting" := hks
        subst hks
        have hfl7 : (⟨f.toArray⟩ : Str).length ≤ 700 := by show f.toArray.size ≤ 700; rw [List.size_toArray]; omega
        cases half with
        | false =>
          refine stopIn (stopOut ?_)
          k_steps
          all_goals first
            | (unfold Stop; subst hav; exact wEnd hI (by assumption) (by assumption) ⟨rfl, told ++ ⟨f.toArray⟩, _, 5, _, false, ⟨by with_unfolding_all rfl, by with_unfolding_all rfl, by with_unfolding_all rfl, fun y h1 h2 h3 h4 h5 h6 => by (dsimp only [mW]; repeat (first | rw [if_neg h1] | rw [if_neg h2] | rw [if_neg h3] | rw [if_neg h4] | rw [if_neg h5] | rw [if_neg h6])), w_app (f := f) (by rfl) (by simpa [walkL] using hw), l_app (by show f.toArray.size ≤ 3; rw [List.size_toArray]; exact hfl) hl⟩⟩)
            | (fail "open")
        | true =>
          refine stopIn (stopOut ?_)
          k_steps
          all_goals first
            | (exact hret told _ _ _ (by have e := w_ret hw (by simp [walkL]); rw [e]; cases st <;> rfl) (by assumption) (by refine' cb_drop ?cbN ?cbS; (case cbN => assumption); (case cbS => kcj_all)))
            | (fail "open")
    · intro a b c told av half t u h tk hw F N
      refine stopIn (stopOut ?_)
      k_steps
      exact hret told t _ _ (by cases st <;> simpa using hw) (by assumption) (by assumption)
end Mine

end
section
open PySem PySem.W PySem.Spec PySem.Calls PyProof.Rows PyProof.Rows.LCg
set_option Elab.async false
set_option maxRecDepth 100000
set_option linter.unusedVariables false
set_option maxHeartbeats 2000000
namespace Mine
noncomputable abbrev sgn (i : It) : PySem.Str := ⟨#[i.2.1]⟩
theorem strs_snoc {y : PySem.Str} {t : Tok} : ∀ {vs : List Value} {ys : List PySem.Str}, StrsAre vs ys → StrsAre (vs ++ [.str y t]) (ys ++ [y])
  | _, _, .nil => .cons _ _ .nil
  | _, _, .cons a b h => .cons a b (strs_snoc h)
theorem datGet {news : List (Addr × Obj)} : ∀ {its : List It} {vs : List Value} {i : Nat} {v : Value}, DatAll news vs (its.map itD) → vs[i]? = some v → ∃ it, its[i]? = some it ∧ DatIn news v (itD it)
  | [], _, i, v, h, hv => by cases h; simp at hv
  | it :: its, _, 0, v, h, hv => by
    cases h with
    | cons h1 hd =>
      simp only [List.getElem?_cons_zero, Option.some.injEq] at hv
      subst hv
      exact ⟨it, rfl, h1⟩
  | it :: its, _, i + 1, v, h, hv => by
    cases h with
    | cons h1 hd =>
      obtain ⟨it', h2, h3⟩ := datGet (i := i) hd (by simpa using hv)
      exact ⟨it', by simpa using h2, h3⟩
structure SgAt (h₀ : Heap) (L I C D ax : Addr) (m : PySem.Str → Option Value) (news : List (Addr × Obj)) (vs : List Value) (its : List It) (h : Heap) (i : Nat) (ys : List Value) (m' : PySem.Str → Option Value) : Prop where
  le : i ≤ vs.length
  len : ys.length = i
  it : h.IsListIter I ax i
  fr : Fr h₀ L h m
  ns : h.Ns C m'
  nw : News h₀ L h ((D, lst ys) :: news)
  sts : StrsAre ys ((its.take i).map sgn)
section
variable {prog : Program} {w : World} {A : Around} {E : Value → Shared → Prop} {s : Shared} {h₀ : Heap} {L : Addr} {m : PySem.Str → Option Value} {env : Env}
theorem sg_loop {iter : Expr} {x1 x2 x3 : PySem.Str} {p1 p2 p3 pe tp pos : Pos} {tk} {scope : Scope} {cl : List (PySem.Str × Addr)} {R : Result → Shared → Prop} {I C D ax : Addr} {n : Nat} {vs : List Value} {its : List It} {news : List (Addr × Obj)} {m0 : PySem.Str → Option Value}
    (hkind : scope.kind = .function) (h1 : scope.names.lookup x1 = some .local) (h2 : scope.names.lookup x2 = some .local) (h3 : scope.names.lookup x3 = some .local) (h23 : x2 ≠ x3)
    (hk : (compEnvC scope cl C env).kindOf x2 = some .local) (hkk : (compEnvC scope cl C env).scope.kind = .function) (hdb : (x2 == ("__debug__" : PySem.Str)) = false)
    (hh : A.handled = none) (hm : (ax, listOf vs.toArray n) ∈ news) (hd : DatAll news vs (its.map itD)) (hsz : vs.length ≤ sizeLine)
    (off : ∀ p ∈ news, p.1 ≠ I ∧ p.1 ≠ C ∧ p.1 ≠ D) (hIC : I ≠ C) (hID : I ≠ D) (hCD : C ≠ D) (hIL : I ≠ L) (hCL : C ≠ L) (hDL : D ≠ L) (hI0 : h₀.get? I = none) (hC0 : h₀.get? C = none) (hD0 : h₀.get? D = none)
    (st : SgAt h₀ L I C D ax m news vs its s.heap 0 [] m0)
    (hR : ∀ h tk m' ys, Fr h₀ L h m → News h₀ L h ((D, lst ys) :: news) → h.Ns C m' → StrsAre ys (its.map sgn) → R (.ok .next) { s with heap := h, toks := tk }) :
    codeAny (model prog w) A (.compLoop (.ListComp (.Name x2 pe) [⟨.Tuple [.Name x1 p1, .Name x2 p2, .Name x3 p3] tk tp, iter, [], 0⟩] scope pos) 0 (.ref I) (.ref D) (compEnvC scope cl C env)) R s := by
  have hlv : vs.length = its.length := by have e := hd.length; rwa [List.length_map] at e
  have hax : ax ≠ I := (off _ hm).1
  have W := Walks.list (prog := prog) (w := w) hh I ax hax vs.toArray
  refine LCp.codeAny_compLoop_pair (fun k s' => ∃ h' tk i ys m', s' = { s with heap := h', toks := tk } ∧ k = vs.length + 1 - i ∧ SgAt h₀ L I C D ax m news vs its h' i ys m') ?_ (vs.length + 1) ⟨s.heap, s.toks, 0, [], m0, rfl, rfl, st⟩
  rintro k s' ⟨h', tk', i, ys, m', rfl, rfl, st⟩
  have hlist : h'.IsList ax vs.toArray := ⟨_, (st.nw _ (.tail _ hm)).1, rfl, n, rfl⟩
  by_cases hlt : i < vs.length
  · refine W.item i _ _ _ (by rw [List.size_toArray]; exact hlt) ⟨st.it, hlist⟩ fun v h₂ tk₂ hPv hst₂ hk₂ => ?_
    have hv : vs[i]? = some v := by rw [← List.getElem?_toArray]; exact hPv
    obtain ⟨it, hit, hD⟩ := datGet hd hv
    obtain ⟨T, t1, t2, t3, nT, rfl, hT⟩ := datTup3 hD
    have keep : ∀ b o, b ≠ I → h'.get? b = some o → h₂.get? b = some o := fun b o hb e => hk₂ b o (fun hq => hb (List.mem_singleton.mp hq)) e
    have F₂ : Fr h₀ L h₂ m := fr_but st.fr hk₂ (Ne.symm hIL) hI0
    have N₂ : News h₀ L h₂ ((D, lst ys) :: news) := news_but st.nw hk₂ fun p hp => by
      rcases List.mem_cons.mp hp with rfl | hp
      · exact Ne.symm hID
      · exact (off p hp).1
    have C₂ : h₂.Ns C m' := st.ns.at' fun o e => keep C o (Ne.symm hIC) e
    have hTup : IsTup h₂ T #[.str (kindS it.1) t1, .str ⟨#[it.2.1]⟩ t2, .str ⟨it.2.2.toArray⟩ t3] := ⟨_, (N₂ _ (.tail _ hT)).1, rfl, nT, rfl⟩
    refine wpAny_letOwnedTupleGo_listiter hst₂.1 ?_
    refine assign_Tuple_tuple hh hTup rfl rfl fun h₃ he => ?_
    have k3 : ∀ b o, h₂.get? b = some o → h₃.get? b = some o := fun b o e => he b o (Nat.ne_of_lt (Heap.lt_size e)) e
    refine assignInOrder_cons (wpAny_assign_Name (wpAny_storeName_local (lookup_relabel_local h1) (C₂.at' fun o e => k3 _ o e) (fun h₄ n₄ s₄ => ?_) (by simp [compEnvC, relabel, hkind])))
    refine assignInOrder_cons (wpAny_assign_Name (wpAny_storeName_local (lookup_relabel_local h2) n₄ (fun h₅ n₅ s₅ => ?_) (by simp [compEnvC, relabel, hkind])))
    refine assignInOrder_cons (wpAny_assign_Name (wpAny_storeName_local (lookup_relabel_local h3) n₅ (fun h₆ n₆ s₆ => ?_) (by simp [compEnvC, relabel, hkind])))
    refine assignInOrder_nil ?_
    have k6 : ∀ b o, b ≠ C → h₂.get? b = some o → h₆.get? b = some o := fun b o hb e => s₆.extBut b o hb (s₅.extBut b o hb (s₄.extBut b o hb (k3 b o e)))
    refine ldVarK n₆ (v := .str ⟨#[it.2.1]⟩ t2) (by simp [h23]) ?_ hkk hk hdb
    have hlD : h₆.get? D = some (lst ys) := k6 _ _ (Ne.symm hCD) (N₂ _ (.head _)).1
    refine append_at (hsz := by show ys.toArray.size ≤ sizeLine; rw [List.size_toArray, st.len]; omega) hlD fun h₇ s₇ hD₇ => ?_
    have k7 : ∀ b o, b ≠ C → b ≠ D → h₂.get? b = some o → h₇.get? b = some o := fun b o hb hb' e => s₇.extBut b o hb' (k6 b o hb e)
    refine ⟨vs.length + 1 - (i + 1), by omega, h₇, _, i + 1, ys ++ [.str ⟨#[it.2.1]⟩ t2], _, rfl, rfl, hlt, by rw [List.length_append, st.len]; rfl, ?_, ?_, n₆.sameBut s₇ (hCD), ?_, ?_⟩
    · obtain ⟨o, e, r⟩ := hst₂.1
      exact ⟨o, k7 I o hIC hID e, r⟩
    · exact ((((F₂.keeps k3).change s₄ hCL hC0).change s₅ hCL hC0).change s₆ hCL hC0).change s₇ hDL hD0
    · intro p hp
      rcases List.mem_cons.mp hp with rfl | hp
      · exact ⟨hD₇.trans (congrArg some (lst_snoc ys _)), hDL, hD0⟩
      · have z := N₂ p (.tail _ hp)
        exact ⟨k7 p.1 p.2 (off p hp).2.1 (off p hp).2.2 z.1, z.2⟩
    · rw [List.take_add_one, hit, List.map_append]
      exact strs_snoc st.sts
  · have hi : i = vs.length := Nat.le_antisymm st.le (Nat.not_lt.mp hlt)
    subst hi
    refine W.done _ _ _ (by rw [List.size_toArray]; exact ⟨st.it, hlist⟩) fun h₂ tk₂ hk₂ => ?_
    have hs := st.sts
    rw [hlv, List.take_length] at hs
    refine hR h₂ tk₂ m' ys (fr_but st.fr hk₂ (Ne.symm hIL) hI0) (news_but st.nw hk₂ fun p hp => ?_) (st.ns.at' fun o e => hk₂ C o (fun hq => hIC (List.mem_singleton.mp hq).symm) e) hs
    rcases List.mem_cons.mp hp with rfl | hp
    · exact Ne.symm hID
    · exact (off p hp).1
end
end Mine

end
section
open PySem PySem.W PySem.Spec PySem.Calls PyProof.Rows PyProof.Rows.LCg
set_option Elab.async false
set_option maxRecDepth 100000
set_option linter.unusedVariables false
set_option maxHeartbeats 2000000
namespace Mine
section
variable {prog : Program} {w : World} {A : Around} {E : Value → Shared → Prop} {s : Shared} {h₀ : Heap} {L : Addr} {m : PySem.Str → Option Value} {env : Env}
/-- what the source of the comprehension gives -/
noncomputable def SgSrc (h₀ : Heap) (L : Addr) (m : PySem.Str → Option Value) (A : Around) (Q : Value → Shared → Prop) (xv : Value) (s₁ : Shared) : Prop :=
  ∃ (ax : Addr) (n : Nat) (vs : List Value) (its : List It) (news : List (Addr × Obj)), xv = .ref ax ∧ A.handled = none ∧ Fr h₀ L s₁.heap m ∧ News h₀ L s₁.heap news ∧ (ax, listOf vs.toArray n) ∈ news ∧ DatAll news vs (its.map itD) ∧ vs.length ≤ sizeLine ∧
      ∀ D ys h tk, Fr h₀ L h m → News h₀ L h ((D, lst ys) :: news) → StrsAre ys (its.map sgn) → Q (.ref D) { s₁ with heap := h, toks := tk }
theorem sg_comp {iter : Expr} {x1 x2 x3 : PySem.Str} {p1 p2 p3 pe tp pos : Pos} {tk} {scope : Scope} {cl : List (PySem.Str × Addr)} {Q : Value → Shared → Prop} (F₀ : Fr h₀ L s.heap m)
    (hclos : closureFor scope env = pure cl) (hcell : ∀ y ∈ scope.names, y.2 ≠ .cell) (hkind : scope.kind = .function)
    (hnames : ∀ y ∈ scope.names, y.2 = .local → scope.names.lookup y.1 = some .local) (h1 : scope.names.lookup x1 = some .local) (h2 : scope.names.lookup x2 = some .local) (h3 : scope.names.lookup x3 = some .local) (h23 : x2 ≠ x3)
    (hk : ∀ C, (compEnvC scope cl C env).kindOf x2 = some .local) (hkk : ∀ C, (compEnvC scope cl C env).scope.kind = .function) (hdb : (x2 == ("__debug__" : PySem.Str)) = false)
    (h : wpAny (model prog w) A (eval iter env) (SgSrc h₀ L m A Q) E s)
    (hs : ∀ x, foldedSetIterable iter env x = pure x := by intro _; rfl) :
    wpAny (model prog w) A (eval (.ListComp (.Name x2 pe) [⟨.Tuple [.Name x1 p1, .Name x2 p2, .Name x3 p3] tk tp, iter, [], 0⟩] scope pos) env) Q E s := by
  rw [eval_ListComp]
  refine wpAny_comprehension_free (use := none) rfl hs hclos hkind hnames (wpAny_mono h (fun xv s₁ g => ?_) fun _ _ e => e)
  obtain ⟨ax, n, vs, its, news, rfl, hh, F, N, hm, hd, hsz, hQ⟩ := g
  have hl : s₁.heap.IsList ax vs.toArray := ⟨_, (N _ hm).1, rfl, n, rfl⟩
  have hax : ax < s₁.heap.objs.size := Heap.lt_size (N _ hm).1
  refine wpAny_pyIter_list hl ?_
  have W := Walks.list (prog := prog) (w := w) hh s₁.heap.objs.size ax (Nat.ne_of_lt hax) vs.toArray
  have hst0 : (s₁.heap.push { cls := .type "list_iterator", data := .fields #[.ref ax, .int 0 0] }).IsListIter s₁.heap.objs.size ax 0 := ⟨_, Heap.get?_push_size _ rfl, rfl, rfl⟩
  have F1 : Fr h₀ L (s₁.heap.push { cls := .type "list_iterator", data := .fields #[.ref ax, .int 0 0] }) m := F.keeps fun _ _ e => Heap.get?_push_of_some _ e
  have N1 : News h₀ L (s₁.heap.push { cls := .type "list_iterator", data := .fields #[.ref ax, .int 0 0] }) news := N.grown fun _ _ e => Heap.get?_push_of_some _ e
  have hsz1 : (s₁.heap.push { cls := .type "list_iterator", data := .fields #[.ref ax, .int 0 0] }).objs.size = s₁.heap.objs.size + 1 := Heap.size_push ..
  have hLlt : L < s₁.heap.objs.size := F.ns.lt
  have hnI : ∀ p ∈ news, p.1 < s₁.heap.objs.size := fun p hp => Heap.lt_size (N p hp).1
  have fresh₀ : ∀ a, s₁.heap.objs.size ≤ a → h₀.get? a = none := fun a ha => by
    cases e : h₀.get? a with
    | none => rfl
    | some o' => exact absurd (Heap.lt_size (F.keep a o' e)) (Nat.not_lt.mpr ha)
  generalize s₁.heap.push { cls := .type "list_iterator", data := .fields #[.ref ax, .int 0 0] } = H1 at *
  refine wpAny_newObj_type (wpAny_newFunctionEnv hcell (by intro y hy; simp at hy) (fun h₁ hns₁ hsb₁ => ?_) hkind)
  dsimp only at hns₁ hsb₁ ⊢
  have hC : (H1.push { cls := .type "list", dict := none, data := .seq ([] : List Value).toArray }).objs.size = H1.objs.size + 1 := Heap.size_push ..
  have old : ∀ b o, H1.get? b = some o → h₁.get? b = some o := fun b o e =>
    hsb₁.extBut b o (by rw [hC]; exact Nat.ne_of_lt (Nat.lt_succ_of_lt (Heap.lt_size e))) (Heap.get?_push_of_some _ (Heap.get?_push_of_some _ e))
  have hacc : h₁.get? H1.objs.size = some (lst []) := hsb₁.extBut _ _ (by rw [hC]; exact Nat.ne_of_lt (Nat.lt_succ_self _)) (Heap.get?_push_of_some _ (Heap.get?_push_size _ rfl))
  generalize hCe : (H1.push { cls := .type "list", dict := none, data := .seq ([] : List Value).toArray }).objs.size = C at *
  generalize hDe : H1.objs.size = D at *
  generalize hIe : s₁.heap.objs.size = I at *
  have nI : I ≠ C := by rw [hC, hsz1]; exact Nat.ne_of_lt (Nat.lt_succ_of_lt (Nat.lt_succ_self _))
  have nD : I ≠ D := by rw [hsz1]; exact Nat.ne_of_lt (Nat.lt_succ_self _)
  have nC : C ≠ D := by rw [hC]; exact Nat.succ_ne_self _
  have lD : ∀ b, b < I → b ≠ D := fun b hb => by rw [hsz1]; exact Nat.ne_of_lt (Nat.lt_succ_of_lt hb)
  have lC : ∀ b, b < I → b ≠ C := fun b hb => by rw [hC, hsz1]; exact Nat.ne_of_lt (Nat.lt_succ_of_lt (Nat.lt_succ_of_lt hb))
  have z0 : h₀.get? I = none := fresh₀ I (Nat.le_refl _)
  have z1 : h₀.get? D = none := fresh₀ D (by rw [hsz1]; exact Nat.le_succ _)
  have z2 : h₀.get? C = none := fresh₀ C (by rw [hC, hsz1]; exact Nat.le_succ_of_le (Nat.le_succ _))
  have hit : h₁.IsListIter I ax 0 := by
    obtain ⟨o, e, r⟩ := hst0
    exact ⟨o, old _ _ e, r⟩
  have hlist1 : h₁.IsList ax vs.toArray := ⟨_, old _ _ (N1 _ hm).1, rfl, n, rfl⟩
  have st : SgAt h₀ L I C D ax m news vs its h₁ 0 [] _ := ⟨Nat.zero_le _, rfl, hit, F1.keeps old, hns₁, fun p hp => by
    rcases List.mem_cons.mp hp with rfl | hp
    · exact ⟨hacc, Ne.symm (lD L hLlt), z1⟩
    · exact ⟨old _ _ (N1 p hp).1, (N1 p hp).2⟩, .nil⟩
  have off : ∀ p ∈ news, p.1 ≠ I ∧ p.1 ≠ C ∧ p.1 ≠ D := fun p hp => ⟨Nat.ne_of_lt (hnI p hp), lC _ (hnI p hp), lD _ (hnI p hp)⟩
  have fin : ∀ (tk0 : Nat) h tk m' ys, Fr h₀ L h m → News h₀ L h ((D, lst ys) :: news) → h.Ns C m' → StrsAre ys (its.map sgn) → compPost (model prog w) A E none Q (.ref D) C (.ok .next) { s₁ with heap := h, toks := tk } := fun tk0 h tk m' ys F' N' hn hy =>
    ⟨m', hn, fun h'' hs'' => hQ D ys h'' tk (F'.change hs'' (Ne.symm (lC L hLlt)) z2) (fun p hp => by
      refine ⟨hs''.extBut _ _ ?_ (N' p hp).1, (N' p hp).2⟩
      rcases List.mem_cons.mp hp with rfl | hp
      · exact Ne.symm nC
      · exact (off p hp).2.1) hy⟩
  exact codeAny_compStart_list (sg_loop hkind h1 h2 h3 h23 (hk _) (hkk _) hdb hh hm hd hsz off nI nD nC (Ne.symm (Nat.ne_of_lt hLlt)) (Ne.symm (lC L hLlt)) (Ne.symm (lD L hLlt)) z0 z2 z1 st (fin 0))
    (W.self 0 _ _ _ ⟨hit, hlist1⟩ (sg_loop hkind h1 h2 h3 h23 (hk _) (hkk _) hdb hh hm hd hsz off nI nD nC (Ne.symm (Nat.ne_of_lt hLlt)) (Ne.symm (lC L hLlt)) (Ne.symm (lD L hLlt)) z0 z2 z1 st (fin 0)))
end
end Mine

end
section
open PySem PySem.W PySem.Spec PySem.Calls PyProof.Rows
set_option Elab.async false
set_option maxRecDepth 100000
set_option linter.unusedVariables false
namespace Mine
theorem ints12 (a0 a1 a2 a3 a4 a5 a6 a7 a8 a9 a10 a11 : Int) (t0 t1 t2 t3 t4 t5 t6 t7 t8 t9 t10 t11 : Tok) : IntsAre [.int a0 t0, .int a1 t1, .int a2 t2, .int a3 t3, .int a4 t4, .int a5 t5, .int a6 t6, .int a7 t7, .int a8 t8, .int a9 t9, .int a10 t10, .int a11 t11] [a0, a1, a2, a3, a4, a5, a6, a7, a8, a9, a10, a11] :=
  .cons _ _ (.cons _ _ (.cons _ _ (.cons _ _ (.cons _ _ (.cons _ _ (.cons _ _ (.cons _ _ (.cons _ _ (.cons _ _ (.cons _ _ (.cons _ _ .nil)))))))))))
theorem sgD_its (ns : List Int) : List.map sgD ns = (itsF ns).map itD := by unfold itsF; rw [List.map_map]; rfl
theorem dat_us {nw : List (Addr × Obj)} {us : List Value} {its : List It} (h : DatAll nw us (its.map itD)) : us.length = its.length := by have e := h.length; rwa [List.length_map] at e
theorem dat_un {nw : List (Addr × Obj)} {a : Addr} {u : Nat} {t1 t2 t3 : Tok} {n : Nat} (h : (a, ({ cls := .type "tuple", data := .seq #[.str (Str.ofString "unseen") t1, .str (Str.mk #[u]) t2, .str (Str.ofString "") t3] n } : Obj)) ∈ nw) : DatIn nw (.ref a) (itD (1, u, [])) :=
  DatIn.tuple (vs := [.str (Str.ofString "unseen") t1, .str (Str.mk #[u]) t2, .str (Str.ofString "") t3]) h (.cons (.str _ _) (.cons (.str _ _) (.cons (.str _ _) .nil)))
theorem itsU_5 {p : Int} {u : Nat} {x : List It} (h : p = 5) : itsU p.toNat u x = (1, u, []) :: x := by subst h; rfl
theorem itsU_n {p : Int} {u : Nat} {x : List It} (h0 : 0 ≤ p) (h : ¬ p = 5) : itsU p.toNat u x = x := by unfold itsU; rw [if_neg (by omega)]
theorem tail_pos (k : Int) : 0 ≤ 12 - Int.fmod k 3 := by
  have h2 := Int.fmod_lt_of_pos k (show (0 : Int) < 3 by decide)
  omega
section
variable {prog : Program} {w : World} {A : Around} {E : Value → Shared → Prop} {s : Shared} {h₀ : Heap} {L : Addr} {m : PySem.Str → Option Value} {env : Env} {st : Stmt} {Q : Flow → Shared → Prop}
/-- both ways of the first test meet -/
noncomputable def JnS (h₀ : Heap) (L : Addr) (m : PySem.Str → Option Value) (its : List It) (s : Shared) (f : Flow) (s' : Shared) : Prop :=
  f = .next ∧ ∃ h' tk T us sp nw m', s' = { s with heap := h', toks := tk } ∧ Fr h₀ L h' m' ∧ m' (PySem.Str.ofString "signs") = some (.ref T) ∧ (∀ y, y ≠ PySem.Str.ofString "signs" → m' y = m y) ∧ News h₀ L h' ((T, listOf (List.toArray us) sp) :: nw) ∧ DatAll nw us (its.map itD)
theorem join1 (its : List It) (F : Fr h₀ L s.heap m) (h : wpAny (model prog w) A (exec st env) (JnS h₀ L m its s) E s)
    (k : ∀ h' tk T us sp nw, Fr h₀ L h' (fun y => if y = PySem.Str.ofString "signs" then some (.ref T) else m y) → News h₀ L h' ((T, listOf (List.toArray us) sp) :: nw) → DatAll nw us (its.map itD) → Q .next { s with heap := h', toks := tk }) :
    wpAny (model prog w) A (exec st env) Q E s := by
  refine wpAny_mono h (fun f s' j => ?_) fun _ _ e => e
  obtain ⟨rfl, h', tk, T, us, sp, nw, m', rfl, F', e1, e2, N', D⟩ := j
  have e : m' = fun y => if y = PySem.Str.ofString "signs" then some (.ref T) else m y := funext fun y => by
    by_cases hy : y = PySem.Str.ofString "signs"
    · rw [if_pos hy, hy, e1]
    · rw [if_neg hy, e2 y hy]
  rw [e] at F'
  exact k h' tk T us sp nw F' N' D
/-- both ways of the second test meet -/
noncomputable def JnO (h₀ : Heap) (L : Addr) (m : PySem.Str → Option Value) (news : List (Addr × Obj)) (l : List Nat) (s : Shared) (f : Flow) (s' : Shared) : Prop :=
  f = .next ∧ ∃ h' tk op t m', s' = { s with heap := h', toks := tk } ∧ Fr h₀ L h' m' ∧ m' (PySem.Str.ofString "opening") = some (.str op t) ∧ (∀ y, y ≠ PySem.Str.ofString "opening" → m' y = m y) ∧ News h₀ L h' news ∧ op.cps.toList = l
theorem join2 {news : List (Addr × Obj)} (l : List Nat) (F : Fr h₀ L s.heap m) (N : News h₀ L s.heap news) (h : wpAny (model prog w) A (exec st env) (JnO h₀ L m news l s) E s)
    (k : ∀ h' tk op t, op.cps.toList = l → Fr h₀ L h' (fun y => if y = PySem.Str.ofString "opening" then some (.str op t) else m y) → News h₀ L h' news → Q .next { s with heap := h', toks := tk }) :
    wpAny (model prog w) A (exec st env) Q E s := by
  refine wpAny_mono h (fun f s' j => ?_) fun _ _ e => e
  obtain ⟨rfl, h', tk, op, t, m', rfl, F', e1, e2, N', D⟩ := j
  have e : m' = fun y => if y = PySem.Str.ofString "opening" then some (.str op t) else m y := funext fun y => by
    by_cases hy : y = PySem.Str.ofString "opening"
    · rw [if_pos hy, hy, e1]
    · rw [if_neg hy, e2 y hy]
  rw [e] at F'
  exact k h' tk op t D F' N'
end
end Mine

end
section
open PySem PySem.W PyProof.Rows
set_option Elab.async false
set_option maxRecDepth 100000
set_option linter.unusedVariables false
namespace Mine
/-- every code that may come ahead of preparing -/
noncomputable def allC : List Nat := [34, 46, 13, 10, 50, 53, 55, 32] ++ unL.map Int.toNat ++ ls24.map (fun p => p.1.cps.getD 0 0)
theorem allC_ok : allC.all shortC = true := by decide +kernel
theorem allC_1 : ∀ c ∈ [34, 46, 13, 10, 50, 53, 55, 32], c ∈ allC := fun c hc => List.mem_append_left _ (List.mem_append_left _ hc)
theorem allC_un (k : Int) : unC k ∈ allC := by
  obtain ⟨i, hi, e⟩ := un_mem k
  rw [e]
  exact List.mem_append_left _ (List.mem_append_right _ (List.mem_map.mpr ⟨i, hi, rfl⟩))
theorem allC_ls (k : Int) : lsC k ∈ allC := List.mem_append_right _ (List.mem_map.mpr ⟨_, ls_mem k, rfl⟩)
theorem allC_it (n : Int) : (itF n).2.1 ∈ allC := by
  unfold itF
  split
  · exact allC_1 34 (by decide)
  split
  · exact allC_un _
  split
  · exact allC_1 46 (by decide)
  split
  · exact allC_1 13 (by decide)
  split
  · exact allC_1 10 (by decide)
  · exact allC_ls _
theorem allC_sh {c : Nat} (h : c ∈ allC) : shortC c = true := List.all_eq_true.mp allC_ok c h
theorem mem_dots : ∀ (l : List Nat) (b : Bool), ∀ c ∈ dots b l, c ∈ l
  | [], _, c, hc => by cases hc
  | d :: l, b, c, hc => by
    unfold dots at hc
    rcases List.mem_append.mp hc with hc | hc
    · split at hc
      · rename_i he
        have : c = 46 := by simpa using hc
        rw [this, ← he.2]; exact .head _
      · have : c = d := by simpa using hc
        rw [this]; exact .head _
    · exact .tail _ (mem_dots l _ c hc)
theorem mem_crlf : ∀ (l : List Nat) (b : Bool), ∀ c ∈ crlf b l, c ∈ l ∨ c = 13 ∨ c = 10
  | [], _, c, hc => by cases hc
  | d :: l, b, c, hc => by
    have ih : ∀ b, c ∈ crlf b l → c ∈ d :: l ∨ c = 13 ∨ c = 10 := fun b h => (mem_crlf l b c h).imp (fun h => .tail _ h) id
    unfold crlf at hc
    split at hc
    · split at hc
      · exact ih _ hc
      · rcases List.mem_cons.mp hc with h | hc
        · exact .inr (.inl h)
        · rcases List.mem_cons.mp hc with h | hc
          · exact .inr (.inr h)
          · exact ih _ hc
    · split at hc
      · rcases List.mem_cons.mp hc with h | hc
        · exact .inr (.inl h)
        · rcases List.mem_cons.mp hc with h | hc
          · exact .inr (.inr h)
          · exact ih _ hc
      · rcases List.mem_cons.mp hc with h | hc
        · exact .inl (h ▸ .head _)
        · exact ih _ hc
theorem mem_unq : ∀ (l : List Nat) (b : Bool), ∀ c ∈ unq b l, c ∈ l
  | [], b, c, hc => by cases b <;> cases hc
  | d :: l, false, c, hc => by
    rw [unq_f] at hc
    split at hc
    · exact .tail _ (mem_unq l _ c hc)
    · rcases List.mem_cons.mp hc with rfl | hc
      · exact .head _
      · exact .tail _ (mem_unq l _ c hc)
  | d :: l, true, c, hc => by
    rw [unq_t] at hc
    split at hc
    · rename_i he
      rcases List.mem_cons.mp hc with rfl | hc
      · rw [he]; exact .head _
      · exact .tail _ (mem_unq l _ c hc)
    · cases hc
theorem dots_le : ∀ (l : List Nat) (b : Bool), (dots b l).length ≤ 2 * l.length
  | [], _ => Nat.le_refl _
  | d :: l, b => by
    have ih := dots_le l (d == 10)
    unfold dots
    rw [List.length_append, List.length_cons]
    split <;> simp only [List.length_cons, List.length_nil] <;> omega
theorem crlf_le (l : List Nat) (b : Bool) : (crlf b l).length ≤ 2 * l.length := crlf_len b l
structure Fine (B : Nat) (v : Str) : Prop where
  len : v.length ≤ B
  codes : ∀ c ∈ v.cps.toList, c ∈ allC
theorem fine_p {B : Nat} {v : Str} (h : Fine B v) : Fine B (pF v) := by
  unfold pF
  split
  · refine ⟨?_, fun c hc => ?_⟩
    · have h1 := unq_len false (v.cps.toList.drop 5)
      have h2 : v.cps.toList.length = v.length := len_toList v
      rw [str_len]
      rw [List.length_drop] at h1
      have := h.len
      omega
    · exact h.codes c (List.mem_of_mem_drop (mem_unq _ _ c hc))
  · exact ⟨Nat.zero_le _, fun c hc => by cases hc⟩
theorem fine_q {B : Nat} {v : Str} (h : Fine B v) : Fine (4 * B) (quoteS v) := by
  refine ⟨?_, fun c hc => ?_⟩
  · have h1 := dots_le (crlf false v.cps.toList) true
    have h2 := crlf_le v.cps.toList false
    have h3 : v.cps.toList.length = v.length := len_toList v
    show (Str.mk (dots true (crlf false v.cps.toList)).toArray).length ≤ _
    rw [str_len]
    have := h.len
    omega
  · have hc' : c ∈ dots true (crlf false v.cps.toList) := hc
    rcases mem_crlf _ _ c (mem_dots _ _ c hc') with h' | rfl | rfl
    · exact h.codes c h'
    · exact allC_1 13 (by decide)
    · exact allC_1 10 (by decide)
theorem prep_list (v : Str) : (prepS v).cps.toList = prp pLc v.cps.toList := prep_str v
theorem prp_le : ∀ (l : List Nat), (∀ c ∈ l, c ∈ allC) → (prp pLc l).length ≤ 3 * l.length
  | [], _ => Nat.le_refl _
  | c :: l, h => by
    have ih := prp_le l fun d hd => h d (.tail _ hd)
    have hc := allC_sh (h c (.head _))
    unfold shortC at hc
    simp only [Bool.and_eq_true, decide_eq_true_eq] at hc
    have h3 : (pLc c).length ≤ 3 := by
      unfold pLc
      split
      · exact Nat.zero_le _
      · rw [Array.length_toList]; exact hc.2
    rw [prp_cons, List.length_append, List.length_cons]
    omega
theorem len_s {B : Nat} {v : Str} (h : Fine B v) : (prepS v).length ≤ 3 * B := by
  have e := prep_list v
  rw [← len_toList, e]
  have h1 := prp_le _ h.codes
  have h3 : v.cps.toList.length = v.length := len_toList v
  have := h.len
  omega
theorem len_p {B : Nat} {v : Str} (h : v.length ≤ B) : (pF v).length ≤ B := by
  unfold pF
  split
  · have h1 := unq_len false (v.cps.toList.drop 5)
    have h2 : v.cps.toList.length = v.length := len_toList v
    rw [str_len]
    rw [List.length_drop] at h1
    omega
  · exact Nat.zero_le _
theorem len_q {B : Nat} {v : Str} (h : v.length ≤ B) : (quoteS v).length ≤ 4 * B := by
  have h1 := dots_le (crlf false v.cps.toList) true
  have h2 := crlf_le v.cps.toList false
  have h3 : v.cps.toList.length = v.length := len_toList v
  show (Str.mk (dots true (crlf false v.cps.toList)).toArray).length ≤ _
  rw [str_len]
  omega
theorem fine_prep {B : Nat} {v : Str} (h : Fine B v) (hB : B ≤ 400000) : v.length ≤ 400000 ∧ (∀ c ∈ v.cps.toList, (Txt.lower ⟨#[c]⟩).length ≤ 1000) ∧ ((v.cps.toList.filterMap tcG).map (·.length)).sum + (v.cps.toList.filterMap tcG).length * (Str.ofString "").length ≤ 16777216 :=
  ⟨Nat.le_trans h.len hB, prep_ready (Nat.le_trans h.len hB) fun c hc => allC_sh (h.codes c hc)⟩
theorem rd_some {v : Str} {l : List Nat} (h : rdL v.cps.toList = some l) : v.cps.toList.take 3 = [50, 53, 55] ∧ (pF v).cps.toList = l := by
  by_cases e : v.cps.toList.take 3 = [50, 53, 55]
  · rw [rd_yes e] at h
    exact ⟨e, by injection h⟩
  · rw [rd_no e] at h
    cases h
theorem rd_none {v : Str} (h : rdL v.cps.toList = none) : ¬ v.cps.toList.take 3 = [50, 53, 55] := fun e => by
  rw [rd_yes e] at h
  cases h
/-- what all the orders stand on -/
structure Base1 (p u : Nat) (x : List It) (v : Str) : Prop where
  hp : p < 8
  hu : pLc u = []
  hf : PlainF [u]
  hne : ∀ d ∈ opn, u ≠ d
  hx : ∀ i ∈ x, OkIt pLc i
  hv : v.cps.toList = rpl p u x
  fine : Fine 30 v
section
variable {p u : Nat} {x : List It} {v : Str} (b : Base1 p u x v)
include b
theorem o1_no (h : p < 3) : ¬ v.cps.toList.take 3 = [50, 53, 55] := by
  have e := law1 prepO b.hu b.hf b.hne b.hp b.hx
  rw [← b.hv] at e
  unfold dueL at e
  rw [if_pos (by simp; omega), if_pos h] at e
  exact rd_none (Option.map_eq_none_iff.mp e)
theorem o1_rd (h : ¬ p < 3) : v.cps.toList.take 3 = [50, 53, 55] := by
  have e := rd_U (u := u) b.hne b.hp (tx (itsU p u x))
  rw [if_neg h] at e
  have hv := b.hv
  unfold rpl at hv
  rw [← hv] at e
  exact (rd_some e).1
theorem o1_mid (h : ¬ p < 3) (h5 : p < 5) : (prepS (quoteS (pF v))).cps.toList = [] := by
  have e := law1 prepO b.hu b.hf b.hne b.hp b.hx
  rw [← b.hv, rd_yes (o1_rd b h), Option.map_some] at e
  unfold dueL at e
  rw [if_pos (by simp; omega), if_neg h] at e
  injection e with e
  rw [prep_list, sd_str, e]
theorem o1_end (h5 : ¬ p < 5) : (prepS (quoteS (pF v))).cps.toList = walkL true true 4 false (itsU p u x) := by
  have e := law1 prepO b.hu b.hf b.hne b.hp b.hx
  rw [← b.hv, rd_yes (o1_rd b (by omega)), Option.map_some] at e
  unfold dueL at e
  rw [if_neg (by simp; omega)] at e
  injection e with e
  rw [prep_list, sd_str, e]
  rfl
theorem o2_mid (h : ¬ p < 3) (h5 : p < 5) : (quoteS (prepS (pF v))).cps.toList = [] := by
  have e := law2 prepO b.hu b.hf b.hne b.hp b.hx
  rw [← b.hv, rd_yes (o1_rd b h), Option.map_some] at e
  unfold dueL at e
  rw [if_pos (by simp; omega), if_neg h] at e
  injection e with e
  rw [sd_str, prep_list, e]
theorem o2_end (h5 : ¬ p < 5) : (quoteS (prepS (pF v))).cps.toList = walkL true false 4 false (itsU p u x) := by
  have e := law2 prepO b.hu b.hf b.hne b.hp b.hx
  rw [← b.hv, rd_yes (o1_rd b (by omega)), Option.map_some] at e
  unfold dueL at e
  rw [if_neg (by simp; omega)] at e
  injection e with e
  rw [sd_str, prep_list, e]
  rfl
theorem o3_no (h : p < 3) : ¬ (quoteS v).cps.toList.take 3 = [50, 53, 55] := by
  have e := law3 prepO b.hu b.hf b.hne b.hp b.hx
  rw [← b.hv, ← sd_str] at e
  unfold dueL at e
  rw [if_pos (by simp; omega), if_pos h] at e
  exact rd_none (Option.map_eq_none_iff.mp e)
theorem o3_rd (h : ¬ p < 3) : (quoteS v).cps.toList.take 3 = [50, 53, 55] := by
  have e := law3 prepO b.hu b.hf b.hne b.hp b.hx
  rw [← b.hv, ← sd_str] at e
  unfold dueL at e
  have : ∃ l, rdL (quoteS v).cps.toList = some l := by
    cases hr : rdL (quoteS v).cps.toList with
    | some l => exact ⟨l, rfl⟩
    | none =>
      rw [hr, Option.map_none] at e
      split at e
      · simp at e
      · cases e
  obtain ⟨l, hl⟩ := this
  exact (rd_some hl).1
theorem o3_mid (h : ¬ p < 3) (h5 : p < 5) : (prepS (pF (quoteS v))).cps.toList = [] := by
  have e := law3 prepO b.hu b.hf b.hne b.hp b.hx
  rw [← b.hv, ← sd_str, rd_yes (o3_rd b h), Option.map_some] at e
  unfold dueL at e
  rw [if_pos (by simp; omega), if_neg h] at e
  injection e with e
  rw [prep_list, e]
theorem o3_end (h5 : ¬ p < 5) : (prepS (pF (quoteS v))).cps.toList = walkL true true 5 false (itsU p u x) := by
  have e := law3 prepO b.hu b.hf b.hne b.hp b.hx
  rw [← b.hv, ← sd_str, rd_yes (o3_rd b (by omega)), Option.map_some] at e
  unfold dueL at e
  rw [if_neg (by simp; omega)] at e
  injection e with e
  rw [prep_list, e]
  rfl
theorem o4_rd : (prepS (quoteS v)).cps.toList.take 3 = [50, 53, 55] ∧ (pF (prepS (quoteS v))).cps.toList = walkL false true 5 false (itsU p u x) := by
  have e := law4 prepO b.hu b.hf b.hp b.hx
  rw [← b.hv, ← sd_str, ← prep_list] at e
  exact rd_some e
theorem o5_rd : (prepS v).cps.toList.take 3 = [50, 53, 55] ∧ (quoteS (pF (prepS v))).cps.toList = walkL false false 4 false (itsU p u x) := by
  have e := law5 prepO (p := p) b.hu b.hf b.hx
  rw [← b.hv, ← prep_list] at e
  have h3 : (prepS v).cps.toList.take 3 = [50, 53, 55] := by
    apply Classical.byContradiction
    intro hn
    rw [rd_no hn] at e
    cases e
  rw [rd_yes h3, Option.map_some] at e
  injection e with e
  exact ⟨h3, by rw [sd_str, e]; rfl⟩
theorem o6_rd : (quoteS (prepS v)).cps.toList.take 3 = [50, 53, 55] ∧ (pF (quoteS (prepS v))).cps.toList = walkL false false 5 false (itsU p u x) := by
  have e := law6 prepO (p := p) b.hu b.hf b.hx
  rw [← b.hv, ← prep_list, ← sd_str] at e
  exact rd_some e
end
end Mine

end
section
open PySem PySem.W PySem.Spec PySem.Calls PyProof.Rows
set_option Elab.async false
set_option maxRecDepth 100000
set_option linter.unusedVariables false
namespace Mine
theorem op_yes {p : Int} {u : Nat} (h0 : 0 ≤ p) (h5 : p < 5) : (Txt.slice (PySem.Str.ofString "257 \"") none (some p) ++ ⟨#[u]⟩ ++ Txt.slice (PySem.Str.ofString "257 \"") (some p) none).cps.toList = opnU p.toNat u := by
  have hp : p = 0 ∨ p = 1 ∨ p = 2 ∨ p = 3 ∨ p = 4 := by omega
  rw [str_app, str_app]
  rcases hp with rfl | rfl | rfl | rfl | rfl
  · rw [show (Txt.slice (PySem.Str.ofString "257 \"") none (some 0)).cps.toList = [] from by decide +kernel, show (Txt.slice (PySem.Str.ofString "257 \"") (some 0) none).cps.toList = [50, 53, 55, 32, 34] from by decide +kernel]; rfl
  · rw [show (Txt.slice (PySem.Str.ofString "257 \"") none (some 1)).cps.toList = [50] from by decide +kernel, show (Txt.slice (PySem.Str.ofString "257 \"") (some 1) none).cps.toList = [53, 55, 32, 34] from by decide +kernel]; rfl
  · rw [show (Txt.slice (PySem.Str.ofString "257 \"") none (some 2)).cps.toList = [50, 53] from by decide +kernel, show (Txt.slice (PySem.Str.ofString "257 \"") (some 2) none).cps.toList = [55, 32, 34] from by decide +kernel]; rfl
  · rw [show (Txt.slice (PySem.Str.ofString "257 \"") none (some 3)).cps.toList = [50, 53, 55] from by decide +kernel, show (Txt.slice (PySem.Str.ofString "257 \"") (some 3) none).cps.toList = [32, 34] from by decide +kernel]; rfl
  · rw [show (Txt.slice (PySem.Str.ofString "257 \"") none (some 4)).cps.toList = [50, 53, 55, 32] from by decide +kernel, show (Txt.slice (PySem.Str.ofString "257 \"") (some 4) none).cps.toList = [34] from by decide +kernel]; rfl
theorem op_no {p : Int} {u : Nat} (h0 : 0 ≤ p) (h5 : ¬ p < 5) : (PySem.Str.ofString "257 \"").cps.toList = opnU p.toNat u := by
  unfold opnU
  rw [if_neg (by omega)]
  decide +kernel
theorem opnU_len (p u : Nat) : (opnU p u).length ≤ 6 := by
  unfold opnU
  split
  · rw [List.length_append, List.length_cons, List.length_take, List.length_drop]
    have : opn.length = 5 := rfl
    omega
  · decide
theorem itsU_len (p u : Nat) (x : List It) : (itsU p u x).length ≤ x.length + 1 := by
  unfold itsU
  split
  · exact Nat.le_refl _
  · exact Nat.le_succ _
theorem join_tx : ∀ (its : List It), (PySem.Str.join (PySem.Str.ofString "") (its.map sgn)).cps.toList = tx its := by
  intro its
  rw [show PySem.Str.ofString "" = S "" from rfl, join_flat]
  induction its with
  | nil => rfl
  | cons i its ih => rw [List.map_cons, List.flatMap_cons, ih]; rfl
theorem join_len (its : List It) : (PySem.Str.join (PySem.Str.ofString "") (its.map sgn)).length = its.length := by
  rw [← len_toList, join_tx]
  exact List.length_map ..
theorem wk_it (n : Int) : WkIt (itF n) := by
  unfold itF WkIt
  split
  · exact .inl ⟨rfl, rfl⟩
  split
  · exact .inr (.inl rfl)
  split
  · exact .inr (.inr (.inl ⟨rfl, rfl, rfl⟩))
  split
  · exact .inr (.inr (.inr (.inl ⟨rfl, rfl, rfl⟩)))
  split
  · exact .inr (.inr (.inr (.inr (.inl ⟨rfl, rfl, rfl⟩))))
  · refine .inr (.inr (.inr (.inr (.inr ⟨rfl, ?_⟩))))
    have h := (ls_p (Int.fdiv n 8)).2.2.2.2.2
    show (lsF (Int.fdiv n 8)).2.cps.toList.length ≤ 3
    rw [len_toList]
    exact h
theorem wk_its (p u : Nat) (ns : List Int) : ∀ i ∈ itsU p u (itsF ns), WkIt i := by
  have h0 : ∀ i ∈ itsF ns, WkIt i := fun i hi => by
    obtain ⟨n, _, rfl⟩ := List.mem_map.mp hi
    exact wk_it n
  unfold itsU
  split
  · intro i hi
    rcases List.mem_cons.mp hi with rfl | hi
    · exact .inr (.inl rfl)
    · exact h0 i hi
  · exact h0
theorem base1 {p : Int} {k : Int} {ns : List Int} {v : PySem.Str} (h0 : 0 ≤ p) (h8 : p < 8) (hl : ns.length ≤ 19) (hv : v.cps.toList = rpl p.toNat (unC k) (itsF ns)) : Base1 p.toNat (unC k) (itsF ns) v := by
  obtain ⟨z1, z2, z3, z4⟩ := un_p k
  refine ⟨by omega, z1, z2, z3, itsF_ok ns, hv, ?_, ?_⟩
  · rw [← len_toList, hv]
    unfold rpl
    rw [List.length_append]
    have h1 := opnU_len p.toNat (unC k)
    have h2 := itsU_len p.toNat (unC k) (itsF ns)
    have h3 : (itsF ns).length = ns.length := List.length_map ..
    have h4 : (tx (itsU p.toNat (unC k) (itsF ns))).length = (itsU p.toNat (unC k) (itsF ns)).length := List.length_map ..
    omega
  · rw [hv]
    intro c hc
    unfold rpl at hc
    rcases List.mem_append.mp hc with hc | hc
    · have ho : ∀ c ∈ opn, c ∈ allC := fun c hc => allC_1 c (by
        have : ∀ c ∈ opn, c ∈ [34, 46, 13, 10, 50, 53, 55, 32] := by decide
        exact this c hc)
      unfold opnU at hc
      split at hc
      · rcases List.mem_append.mp hc with h | h
        · exact ho c (List.mem_of_mem_take h)
        · rcases List.mem_cons.mp h with rfl | h
          · exact allC_un k
          · exact ho c (List.mem_of_mem_drop h)
      · exact ho c hc
    · obtain ⟨i, hi, rfl⟩ := List.mem_map.mp hc
      have h0 : ∀ i ∈ itsF ns, i.2.1 ∈ allC := fun i hi => by
        obtain ⟨n, _, rfl⟩ := List.mem_map.mp hi
        exact allC_it n
      unfold itsU at hi
      split at hi
      · rcases List.mem_cons.mp hi with rfl | hi
        · exact allC_un k
        · exact h0 i hi
      · exact h0 i hi
section
variable {prog : Program} {w : World} {A : Around} {E : Value → Shared → Prop} {s : Shared} {h₀ : Heap} {env : Env} {target : Expr} {body : List Stmt} {Q : Flow → Shared → Prop}
theorem ne_same {x y : PySem.Str} {t u : Tok} {l : List Nat} {Q : Value → Shared → Prop} (hx : x.cps.toList = l) (hy : y.cps.toList = l) (h : Q (.bool false) s) : wpAny (model prog w) A (compareOp .NotEq (.str x t) (.str y u)) Q E s := by
  have e : x = y := by
    cases x; cases y
    congr 1
    rw [← Array.toList_inj]
    exact hx.trans hy.symm
  subst e
  refine ne_str ?_
  rw [show (x != x) = false from by simp]
  exact h
theorem joinS {D : Addr} {items : Array Value} {its : List It} {t : Tok} {Q : Value → Shared → Prop} (hl : s.heap.IsList D items) (hi : StrsAre items.toList (its.map sgn)) (hn : its.length ≤ 100)
    (h : ∀ t' k, Q (.str (PySem.Str.join (PySem.Str.ofString "") (its.map sgn)) t') { s with toks := k }) : wpAny (model prog w) A (call (.builtin "str.join") [.str (PySem.Str.ofString "") t, .ref D]) Q E s := by
  have hs : ((its.map sgn).map (·.length)).sum = its.length := by
    clear hi hn h
    induction its with
    | nil => rfl
    | cons i its ih => rw [List.map_cons, List.map_cons, List.sum_cons, ih, List.length_cons]; show 1 + _ = _; omega
  refine join_list hl hi (by rw [hs, show (PySem.Str.ofString "").length = 0 from by decide +kernel]; omega) fun t' k => ?_
  have e : Txt.join (PySem.Str.ofString "") (its.map sgn) = PySem.Str.join (PySem.Str.ofString "") (its.map sgn) := StrLaws.glued_eq_join _ _
  rw [e]
  exact h t' k
/-- the eight names that a turn of the orders turns -/
noncomputable abbrev mO (a b c d e f g i : Option Value) (r : PySem.Str → Option Value) : PySem.Str → Option Value :=
  fun y => if y = PySem.Str.ofString "first" then a else if y = PySem.Str.ofString "second" then b else if y = PySem.Str.ofString "third" then c else if y = PySem.Str.ofString "by_reader" then d else if y = PySem.Str.ofString "by_sender" then e else if y = PySem.Str.ofString "at_start" then f else if y = PySem.Str.ofString "got" then g else if y = PySem.Str.ofString "due" then i else r y
noncomputable def OSt (r m' : PySem.Str → Option Value) : Prop := ∀ y, y ≠ PySem.Str.ofString "first" → y ≠ PySem.Str.ofString "second" → y ≠ PySem.Str.ofString "third" → y ≠ PySem.Str.ofString "by_reader" → y ≠ PySem.Str.ofString "by_sender" → y ≠ PySem.Str.ofString "at_start" → y ≠ PySem.Str.ofString "got" → y ≠ PySem.Str.ofString "due" → m' y = r y
theorem OSt.eq {r m' : PySem.Str → Option Value} (h : OSt r m') : m' = mO (m' (PySem.Str.ofString "first")) (m' (PySem.Str.ofString "second")) (m' (PySem.Str.ofString "third")) (m' (PySem.Str.ofString "by_reader")) (m' (PySem.Str.ofString "by_sender")) (m' (PySem.Str.ofString "at_start")) (m' (PySem.Str.ofString "got")) (m' (PySem.Str.ofString "due")) r := by
  funext y
  unfold mO
  by_cases h1 : y = PySem.Str.ofString "first"
  · rw [if_pos h1, h1]
  by_cases h2 : y = PySem.Str.ofString "second"
  · rw [if_neg h1, if_pos h2, h2]
  by_cases h3 : y = PySem.Str.ofString "third"
  · rw [if_neg h1, if_neg h2, if_pos h3, h3]
  by_cases h4 : y = PySem.Str.ofString "by_reader"
  · rw [if_neg h1, if_neg h2, if_neg h3, if_pos h4, h4]
  by_cases h5 : y = PySem.Str.ofString "by_sender"
  · rw [if_neg h1, if_neg h2, if_neg h3, if_neg h4, if_pos h5, h5]
  by_cases h6 : y = PySem.Str.ofString "at_start"
  · rw [if_neg h1, if_neg h2, if_neg h3, if_neg h4, if_neg h5, if_pos h6, h6]
  by_cases h7 : y = PySem.Str.ofString "got"
  · rw [if_neg h1, if_neg h2, if_neg h3, if_neg h4, if_neg h5, if_neg h6, if_pos h7, h7]
  by_cases h8 : y = PySem.Str.ofString "due"
  · rw [if_neg h1, if_neg h2, if_neg h3, if_neg h4, if_neg h5, if_neg h6, if_neg h7, if_pos h8, h8]
  · rw [if_neg h1, if_neg h2, if_neg h3, if_neg h4, if_neg h5, if_neg h6, if_neg h7, if_neg h8, h y h1 h2 h3 h4 h5 h6 h7 h8]
noncomputable def OTurn (prog : Program) (w : World) (A : Around) (E : Value → Shared → Prop) (s : Shared) (h₀ : Heap) (env : Env) (target : Expr) (body : List Stmt) (Q : Flow → Shared → Prop) (I : Addr) (news : List (Addr × Obj)) (r : PySem.Str → Option Value) (v : Value) : Prop :=
  ∀ (a b c d e f g i : Option Value) (o' : Obj) (h : Heap) (tk : Nat), o'.cls = .type "list_iterator" → Fr h₀ env.locals h (mO a b c d e f g i r) → News h₀ env.locals h ((I, o') :: news) →
      wpAny (model prog w) A (assign target env v) (fun _ s₂ => wpAny (model prog w) A (execs body env)
        (UnrPostW h₀ env.locals { s with heap := h, toks := tk } [(I, o')] (fun m' n' => n' = news ∧ OSt r m') Q) E s₂) E { s with heap := h, toks := tk }
theorem ord_rest {I ax : Addr} {lo : Obj} {news : List (Addr × Obj)} {r : PySem.Str → Option Value} (hax : (ax, lo) ∈ news)
    (fin : ∀ (a b c d e f g i : Option Value) (h : Heap) (tk : Nat), Fr h₀ env.locals h (mO a b c d e f g i r) → News h₀ env.locals h news → Q .next { s with heap := h, toks := tk }) :
    ∀ (vs : List Value) (m : PySem.Str → Option Value), OSt r m → (∀ v ∈ vs, OTurn prog w A E s h₀ env target body Q I news r v) →
      ItemsRest prog w A E h₀ env target body Q s [(I, "list_iterator")] [(ax, lo)] (vs.map .val) m news := by
  intro vs
  induction vs with
  | nil =>
    intro m hw _
    refine ItemsRest.zero fun h tk F N => ?_
    rw [hw.eq] at F
    exact fin _ _ _ _ _ _ _ _ h tk F N
  | cons v vs ih =>
    intro m hw ht
    refine ItemsRest.val fun h tk F => AllObj.cons fun o' hc' => AllObj.nil fun N => ?_
    have N : News h₀ env.locals h ((I, o') :: news) := N
    rw [hw.eq] at F
    refine wpAny_mono (ht v (.head _) _ _ _ _ _ _ _ _ o' h tk hc' F N) (fun _ s₂ p => wpAny_mono p (fun f s₃ p => ?_) fun _ _ e => e) fun _ _ e => e
    have up : ∀ s₃, UnrEndW h₀ env.locals { s with heap := h, toks := tk } [(I, o')] (fun m' n' => n' = news ∧ OSt r m') s₃ →
        UnrEndW h₀ env.locals { s with heap := h, toks := tk } [(I, o')] (fun m' n' => SubL [(ax, lo)] n' ∧ ItemsRest prog w A E h₀ env target body Q s [(I, "list_iterator")] [(ax, lo)] (List.map Itm.val vs) m' n') s₃ := by
      rintro s₃ ⟨h', tk', m', news', e, F', N', ho, rfl, hw'⟩
      exact ⟨h', tk', m', _, e, F', N', ho, ⟨hax, trivial⟩, ih m' hw' fun v hv => ht v (.tail _ hv)⟩
    cases f with
    | ret v => exact p
    | brk => exact p
    | next => exact up s₃ p
    | cont => exact up s₃ p
end
end Mine

end
section
open PySem PySem.W PyProof.Rows
set_option Elab.async false
set_option maxRecDepth 100000
set_option linter.unusedVariables false
namespace Mine
theorem handR1 {w : World} {mean : ExcName → Option Value} {mg mb : Str → Option Value} {news : List (Addr × Obj)} (v : Str) (t t' : Tok) :
  ∀ (dp un : Nat) (gd : Option (List Code)) (cn : Str) (cs : Scope) (ad : Addr) (ccd : Value) (A₀ : Around) (h₀ : Heap) (L : Addr) (m : Str → Option Value) (s : Shared) (Q E : Value → Shared → Prop),
    Below A₀ h₀ [] h₀ → Fr h₀ L s.heap m → (K w.params).In h₀ → News h₀ L s.heap news → Top q01 (looseW q01 loose01) mean mg mb h₀ → cs.kind = .function →
    v.length ≤ 400000 → v.cps.toList.take 3 = [50, 53, 55] → dp + 3 < recursionLimit → un + 24 < cLine →
    (∀ (h' : Heap) (tk : Nat) (t : Tok), Fr h₀ L h' m → News h₀ L h' news → Q (.str (pF v) t) { s with heap := h', toks := tk }) →
      wpAny (model PySem.Challenge.rw_tr0050_01.prog w) (ktrTop dp un gd cn cs L ad ccd [] []) (call (.ref 175) [.str (Str.ofString "read") t, .str v t']) Q E s := by
  intro dp un gd cn cs ad ccd A₀ h₀ L m s Q E z1 z2 z3 z4 z5 z6 hl h3 hd hu hret
  exact handR v t t' dp un gd cn cs ad ccd A₀ h₀ L m s Q E z1 z2 z3 z4 z5 z6 hl hd hu (fun _ => hret) (fun h => absurd h3 h)
theorem handR2 {w : World} {mean : ExcName → Option Value} {mg mb : Str → Option Value} {news : List (Addr × Obj)} (v : Str) (t t' : Tok) :
  ∀ (dp un : Nat) (gd : Option (List Code)) (cn : Str) (cs : Scope) (ad : Addr) (ccd : Value) (A₀ : Around) (h₀ : Heap) (L : Addr) (m : Str → Option Value) (s : Shared) (Q E : Value → Shared → Prop),
    Below A₀ h₀ [] h₀ → Fr h₀ L s.heap m → (K w.params).In h₀ → News h₀ L s.heap news → Top q01 (looseW q01 loose01) mean mg mb h₀ → cs.kind = .function →
    v.length ≤ 400000 → ¬ v.cps.toList.take 3 = [50, 53, 55] → dp + 3 < recursionLimit → un + 24 < cLine →
    (∀ (B : Addr) (h' : Heap) (tk : Nat), Fr h₀ L h' m → News h₀ L h' ((B, listOf #[.bool true] 0) :: news) → Q (.ref B) { s with heap := h', toks := tk }) →
      wpAny (model PySem.Challenge.rw_tr0050_01.prog w) (ktrTop dp un gd cn cs L ad ccd [] []) (call (.ref 175) [.str (Str.ofString "read") t, .str v t']) Q E s := by
  intro dp un gd cn cs ad ccd A₀ h₀ L m s Q E z1 z2 z3 z4 z5 z6 hl h3 hd hu hbad
  exact handR v t t' dp un gd cn cs ad ccd A₀ h₀ L m s Q E z1 z2 z3 z4 z5 z6 hl hd hu (fun h => absurd h h3) (fun _ => hbad)
theorem walkN {w : World} {mean : ExcName → Option Value} {mg mb : Str → Option Value} {nl : List (Addr × Obj)} {l : Addr} {vs : List Value} {sp : Nat} (its : List It) (br bs st : Bool) :
  ∀ (dp un : Nat) (gd : Option (List Code)) (cn : Str) (cs : Scope) (ad : Addr) (ccd : Value) (cl : List (Str × Addr)) (outer : List Env) (A₀ : Around) (base h₀ : Heap) (L : Addr) (m : Str → Option Value) (s : Shared) (Q E : Value → Shared → Prop),
    Below A₀ base outer h₀ → Fr h₀ L s.heap m → (K w.params).In h₀ → News h₀ L s.heap nl → Top q01 (looseW q01 loose01) mean mg mb h₀ → cs.kind = .function →
    ((l, listOf vs.toArray sp) ∈ nl ∧ DatAll nl vs (its.map itD) ∧ its.length ≤ 100 ∧ ∀ i ∈ its, WkIt i) → dp + 3 < recursionLimit → un + 24 < cLine →
    (∀ (v : Str) (t : Tok) (h' : Heap) (tk : Nat), v.cps.toList = walkL br bs (cond st 4 5) false its → Fr h₀ L h' m → News h₀ L h' nl → Q (.str v t) { s with heap := h', toks := tk }) →
      wpAny (model PySem.Challenge.rw_tr0050_01.prog w) (ktrTop dp un gd cn cs L ad ccd cl outer) (call (.ref 170) [.ref l, .bool br, .bool bs, .bool st]) Q E s := by
  intro dp un gd cn cs ad ccd cl outer A₀ base h₀ L m s Q E z1 z2 z3 z4 z5 z6 hpre hd hu hret
  obtain ⟨hm, hdat, hlen, hwk⟩ := hpre
  refine walk (news := nl) l vs sp its br bs st dp un gd cn cs ad ccd cl outer A₀ base h₀ L m s Q E z1 z2 z3 ?_ z5 z6 ⟨DatAll.mono (fun p hp => .tail _ hp) hdat, hlen, hwk⟩ hd hu ?_
  · intro p hp
    rcases List.mem_cons.mp hp with rfl | hp
    · exact z4 _ hm
    · exact z4 p hp
  · intro v t h' tk hv F N
    refine hret v t h' tk ?_ F fun p hp => N p (.tail _ hp)
    rw [hv]
    cases st <;> rfl
end Mine

end
section
open PySem PySem.W PySem.Spec PySem.Calls PyProof.Rows
set_option Elab.async false
set_option maxRecDepth 100000
set_option linter.unusedVariables false
namespace Mine
theorem true_ne {prog : Program} {w : World} {A : Around} {Q E : Value → Shared → Prop} {s : Shared} {a b : Addr} {as bs : List Addr}
    (r1 : Reads s.heap (.ref a) (.list [.bool true]) as) (r2 : Reads s.heap (.ref b) (.list [.bool true]) bs)
    (hu : A.units + 64 < cLine) (h : Q (.bool false) s) : wpAny (model prog w) A (compareOp .NotEq (.ref a) (.ref b)) Q E s := by
  have sh : PySem.SeqAt.shaped (.list [.bool true]) = true := by
    simp [PySem.SeqAt.shaped, PyData.canLay0, PyData.canLayAll0, PyData.depth, PyData.depthAll]
  refine ne_dataH r1 r2 sh sh hu ?_
  have e : PyData.eqv (.list [.bool true]) (.list [.bool true]) = true := by
    simp [PyData.eqv, PyData.eqvAll]
  rw [e]
  exact h
theorem emp_l : (PySem.Str.ofString "").cps.toList = [] := by decide +kernel
theorem rpl_of {op : PySem.Str} {p u : Nat} {x : List It} (h : op.cps.toList = opnU p u) : (op ++ PySem.Str.join (PySem.Str.ofString "") ((itsU p u x).map sgn)).cps.toList = rpl p u x := by
  rw [str_app, h, join_tx]
  rfl
theorem le4 {n : Nat} {B : Nat} (h : n ≤ B) (hB : B ≤ 400000) : n ≤ 400000 := Nat.le_trans h hB
end Mine

end
section
open PySem PySem.W PyProof.Rows
set_option Elab.async false
set_option maxRecDepth 100000
set_option linter.unusedVariables false
namespace Mine
theorem mem6 {α : Type} {v a b c d e f : α} (h : v ∈ [a, b, c, d, e, f]) : v = a ∨ v = b ∨ v = c ∨ v = d ∨ v = e ∨ v = f := by simpa using h
theorem dmono {n1 n2 : List (Addr × Obj)} {vs : List Value} {ds} (h : DatAll n1 vs ds) (hs : ∀ p ∈ n1, p ∈ n2) : DatAll n2 vs ds := DatAll.mono hs h
theorem kp {P : Int} (h : P < 3) : P.toNat < 3 := by omega
theorem kn3 {P : Int} (h0 : 0 ≤ P) (h : ¬ P < 3) : ¬ P.toNat < 3 := by omega
theorem kp5 {P : Int} (h0 : 0 ≤ P) (h : P < 5) : P.toNat < 5 := by omega
theorem kn5 {P : Int} (h0 : 0 ≤ P) (h : ¬ P < 5) : ¬ P.toNat < 5 := by omega
structure StopMark0 : Prop where
structure StopMark1 : Prop where
structure StopMark2 : Prop where
local macro_rules | `(tactic| walk_at "subscriptTail Name Slice ref ref") => `(tactic| (k_here; (with_reducible show wpAny _ _ (subscriptTail _ (PySem.Expr.Slice none (some (PySem.Expr.BinOp _ _ _ _)) none _) _ _) _ _ _); with_reducible refine Stop.intro ?_))
local macro_rules | `(tactic| walk_at "exec Assign") => `(tactic| (k_here; (with_reducible show wpAny _ _ (exec (Stmt.Assign [Expr.Name (Str.ofString "tail") _] _ _) _) _ _ _); (rename StopMark0 => hm'); (clear hm'); with_reducible refine Stop.intro ?_))
local macro_rules | `(tactic| walk_at "call ref") => `(tactic| (k_here; with_reducible refine Stop.intro ?_))
local macro_rules | `(tactic| walk_at "compareOp NotEq str str") => `(tactic| (k_here; with_reducible refine Stop.intro ?_))
local macro_rules | `(tactic| walk_at "compareOp NotEq ref ref") => `(tactic| (k_here; with_reducible refine Stop.intro ?_))
local macro_rules | `(tactic| walk_at "UnrEndW") => `(tactic| (with_reducible refine Stop.intro ?_))
local macro_rules | `(tactic| walk_at "exec If") => `(tactic| (k_here; (rename StopMark1 => hm'); (clear hm'); with_reducible refine Stop.intro ?_))
local macro_rules | `(tactic| walk_at "binaryOp Add ref ref") => `(tactic| (k_here; (rename StopMark2 => hm'); with_reducible refine Stop.intro ?_))
local macro_rules | `(tactic| walk_at "eval ListComp") => `(tactic| (k_here; (with_reducible show wpAny _ _ (eval (Expr.ListComp _ [⟨Expr.Tuple _ _ _, _, _, _⟩] _ _) _) _ _ _); with_reducible refine Stop.intro ?_))
local macro_rules | `(tactic| walk_at "SgSrc") => `(tactic| with_reducible refine Stop.intro ?_)
local macro_rules | `(tactic| walk_at "call builtin:str.join") => `(tactic| (k_here; with_reducible refine Stop.intro ?_))
local macro_rules | `(tactic| walk_at "exec For Tuple Name cons nil") => `(tactic| (k_here; with_reducible refine Stop.intro ?_))
local macro_rules | `(tactic| walk_at "pyIter ref") => `(tactic| (k_here; (with_reducible show wpAny _ _ (pyIter (Value.ref _)) (fun it s₂ => TurnsAt _ _ _ _ _ _ _ _ _ it s₂) _ _); with_reducible refine Stop.intro ?_))
set_option maxHeartbeats 6000000 in
theorem hc : WalkO q01 loose01 (XL q01 []) (Hook.says HK) PySem.Challenge.rw_tr0050_01.row.toRowW ⟨S "law", fpar21, fbody21, fsco21, ⟨103, 0, 123, 15⟩⟩ [] fun f vs => PySem.call f vs := by
  unfold WalkO
  unfold HK
  k_go0
  have hmark0 : StopMark0 := ⟨⟩
  k_steps
  rename List Int => script
  have hNl : (List.map (fun k' => Int.fmod k' 1000000) (List.take 7 script)).length ≤ 7 := by rw [List.length_map, List.length_take]; omega
  generalize List.map (fun k' => Int.fmod k' 1000000) (List.take 7 script) = NUM at *
  generalize NUM.sum = TOT at *
  with_reducible rename Fr _ _ _ _ => hF
  try dsimp only at hF
  refine stopOut ?_
  try dsimp only
  k_steps
  unfold Stop
  k_here
  k_dflt (refine kmk_slice_ints (by k_asm) (by k_asm) (News.isList (by k_asm) (by k_mem)) IsPart.none (IsPart.int _ _) (ints12 _ _ _ _ _ _ _ _ _ _ _ _ _ _ _ _ _ _ _ _ _ _ _ _) (kmk_upto (ints12 _ _ _ _ _ _ _ _ _ _ _ _ _ _ _ _ _ _ _ _ _ _ _ _) (tail_pos _)) (List.length_take ..) ?_ (by with_unfolding_all rfl) (by intro _; with_unfolding_all rfl) (by exact Nat.le_of_ble_eq_true rfl))
  intro D' ws' h' F' N' l1 hI' hC' hL'
  try dsimp only at F'
  try dsimp only at N'
  try dsimp only
  try k_lt l1
  try k_sweep
  k_steps
  unfold Stop
  with_reducible rename IntsAre _ (_ ++ _) => hints
  have hNS : (NUM ++ List.take (12 - Int.fmod (Int.fdiv TOT 8) 3).toNat [2, 3, 4, 10, 5, 3, 0, 18, 1, 3, 0, 6]).length ≤ 19 := by
    rw [List.length_append, List.length_take]
    have e : [(2 : Int), 3, 4, 10, 5, 3, 0, 18, 1, 3, 0, 6].length = 12 := rfl
    omega
  generalize NUM ++ List.take (12 - Int.fmod (Int.fdiv TOT 8) 3).toNat [2, 3, 4, 10, 5, 3, 0, 18, 1, 3, 0, 6] = NS at *
  k_here
  k_dflt (refine signs _ _ _ NS _ _ _ _ _ _ _ _ _ _ _ _ _ _ _ _ _ (by k_asm) (by k_asm) (by k_asm) (by k_asm) (by k_asm) (by first | exact rfl | assumption) (And.intro hints (by omega)) (by first | ktr_room | decide) (by first | ktr_units | decide) ?_)
  intro T us sp' nw h9 tk9 F9 N9 hsub hdat
  clear hsub
  have hdat0 := hdat
  rw [sgD_its] at hdat
  have hmark1 : StopMark1 := ⟨⟩
  k_steps
  unfold Stop
  have hpl0 := Int.fmod_nonneg_of_pos (TOT + 6) (show (0 : Int) < 8 by decide)
  have hpl8 := Int.fmod_lt_of_pos (TOT + 6) (show (0 : Int) < 8 by decide)
  with_reducible rename Fr _ _ _ _ => hF1
  refine join1 (itsU (Int.fmod (TOT + 6) 8).toNat (unC (Int.fdiv TOT 8)) (itsF NS)) hF1 ?_ ?_
  · have hmark2 : StopMark2 := ⟨⟩
    refine stopIn (stopOut ?_)
    k_steps
    · unfold Stop
      k_here
      k_dflt (refine unseen _ _ _ _ _ _ _ _ _ _ _ _ _ _ _ _ _ _ _ (by k_asm) (by k_asm) (by k_asm) (by k_asm) (by k_asm) (by first | exact rfl | assumption) (by trivial) (by first | ktr_room | decide) (by first | ktr_units | decide) ?_)
      intro t9 h9 tk9 F9 N9
      try dsimp only
      k_steps
      unfold Stop
      k_here
      have hul := dat_us hdat
      have hul2 : (itsF NS).length = NS.length := List.length_map ..
      k_dflt (refine add_arrays (by k_asm) (by k_asm) (News.isList (by k_asm) (by k_mem)) (News.isList (by k_asm) (.tail _ (.tail _ (.head _)))) ?_ (by rw [PySem.sizeLine_eq, List.size_toArray]; show 1 + us.length ≤ _; omega))
      intro h2 F2 N2
      k_steps
      with_reducible rename (Int.fmod _ 8 = 5) => hp5
      rw [itsU_5 hp5]
      refine ⟨rfl, _, _, _, _, _, _, _, rfl, by assumption, by with_unfolding_all rfl, fun y hy => by rw [if_neg hy], by assumption, ?_⟩
      with_unfolding_all exact DatAll.cons (dat_un (.tail _ (.head _))) (DatAll.mono (fun p hp => .tail _ (.tail _ (.tail _ hp))) hdat)
    · with_reducible rename (¬ Int.fmod _ 8 = 5) => hp5
      rw [itsU_n hpl0 hp5]
      exact ⟨rfl, _, _, _, _, _, _, _, rfl, by assumption, by with_unfolding_all rfl, fun y hy => rfl, by assumption, hdat⟩
  · try clear hdat
    try clear hdat0
    try clear hF
    try clear hF1
    intro h' tk T us sp nw F N hd
    have hmark1 : StopMark1 := ⟨⟩
    refine stopIn (stopOut ?_)
    k_steps
    unfold Stop
    with_reducible rename Fr _ _ _ _ => hF2
    with_reducible rename News _ _ _ _ => hN2
    refine join2 (opnU (Int.fmod (TOT + 6) 8).toNat (unC (Int.fdiv TOT 8))) hF2 hN2 ?_ ?_
    · refine stopIn (stopOut ?_)
      k_steps
      · unfold Stop
        k_here
        k_dflt (refine unseen _ _ _ _ _ _ _ _ _ _ _ _ _ _ _ _ _ _ _ (by k_asm) (by k_asm) (by k_asm) (by k_asm) (by k_asm) (by first | exact rfl | assumption) (by trivial) (by first | ktr_room | decide) (by first | ktr_units | decide) ?_)
        intro t9 h9 tk9 F9 N9
        try dsimp only
        k_steps
        with_reducible rename (Int.fmod _ 8 < 5) => hp5
        exact ⟨rfl, _, _, _, _, _, rfl, by assumption, by with_unfolding_all rfl, fun y hy => by rw [if_neg hy], by assumption, op_yes hpl0 hp5⟩
      · with_reducible rename (¬ Int.fmod _ 8 < 5) => hp5
        exact ⟨rfl, _, _, _, _, _, rfl, hF2, by with_unfolding_all rfl, fun y hy => rfl, hN2, op_no hpl0 hp5⟩
    · try clear hF2
      try clear hN2
      intro h' tk op t hop F N
      have hopl : op.length ≤ 700 := by have e := opnU_len (Int.fmod (TOT + 6) 8).toNat (unC (Int.fdiv TOT 8)); rw [← hop, len_toList] at e; omega
      have hil : (itsU (Int.fmod (TOT + 6) 8).toNat (unC (Int.fdiv TOT 8)) (itsF NS)).length ≤ 20 := by
        have e1 := itsU_len (Int.fmod (TOT + 6) 8).toNat (unC (Int.fdiv TOT 8)) (itsF NS)
        have e2 : (itsF NS).length = NS.length := List.length_map ..
        omega
      have hjl : (Str.join (Str.ofString "") ((itsU (Int.fmod (TOT + 6) 8).toNat (unC (Int.fdiv TOT 8)) (itsF NS)).map sgn)).length ≤ 700 := by rw [join_len]; omega
      have hus : us.length ≤ sizeLine := by rw [PySem.sizeLine_eq, dat_us hd]; omega
      have hd2 : DatAll ((T, W.listOf us.toArray sp) :: nw) us ((itsU (Int.fmod (TOT + 6) 8).toNat (unC (Int.fdiv TOT 8)) (itsF NS)).map itD) := DatAll.mono (fun p hp => .tail _ hp) hd
      have hil2 : (itsU (Int.fmod (TOT + 6) 8).toNat (unC (Int.fdiv TOT 8)) (itsF NS)).length ≤ 100 := by omega
      refine stopIn (stopOut ?_)
      k_steps
      unfold Stop
      k_here
      k_dflt (refine sg_comp (by k_asm) (by with_unfolding_all rfl) (by decide) (by rfl) (by decide) (by rfl) (by rfl) (by rfl) (by decide) (fun _ => by rfl) (fun _ => by rfl) (by decide) ?_)
      k_steps
      unfold Stop
      k_dflt (refine ⟨_, _, _, _, _, rfl, by rfl, by k_asm, by k_asm, List.Mem.head _, by with_reducible assumption, by with_reducible assumption, ?_⟩)
      intro D9 ys9 h9 tk9 F9 N9 hy9
      k_steps
      unfold Stop
      k_here
      k_dflt (refine joinS (News.isList (by k_asm) (by k_mem)) (by with_reducible assumption) (by with_reducible assumption) ?_)
      intro tj9 kj9
      k_steps
      unfold Stop
      k_here
      with_reducible rename Fr _ _ _ _ => lF'
      with_unfolding_all refine' For_turns lF' ?_
      k_whole
      k_steps
      unfold Stop
      have hVl := rpl_of (x := itsF NS) hop
      with_reducible rename Fr _ _ _ _ => lF
      with_reducible rename News _ _ _ _ => lN
      generalize op ++ (Str.ofString "").join (List.map sgn (itsU (Int.fmod (TOT + 6) 8).toNat (unC (Int.fdiv TOT 8)) (itsF NS))) = V at hVl lF
      have hb := base1 hpl0 hpl8 hNS hVl
      have hwk := wk_its (Int.fmod (TOT + 6) 8).toNat (unC (Int.fdiv TOT 8)) NS
      have hV := le4 hb.fine.len (by decide)
      generalize Int.fmod (TOT + 6) 8 = P at *
      with_unfolding_all refine iter_listTurns (vs := [_, _, _, _, _, _]) (n := 0) (by rfl) lF lN (.head _) (by rfl) (by rfl) ?_
      intro I hI
      with_unfolding_all refine' ord_rest (.head _) ?_ _ _ (fun y _ _ _ _ _ _ _ _ => rfl) ?_
      · intro a b c d e f g i h tk F N
        dsimp only
        refine stopIn (stopOut ?_)
        k_steps
      · intro v hv a b c d e f g i o' h tk hc' F N
        rcases mem6 hv with rfl | rfl | rfl | rfl | rfl | rfl
        · rcases Classical.em (P < 3) with hp3 | hp3
          · -- below 3
            have f1 := o1_no hb (kp hp3)
            refine stopIn (stopOut ?_)
            k_steps
            unfold Stop
            k_here
            k_dflt (refine handR2 _ _ _ _ _ _ _ _ _ _ _ _ _ _ _ _ _ (by k_asm) (by k_asm) (by k_asm) (by k_asm) (by k_asm) (by first | exact rfl | assumption) (by with_reducible assumption) (by with_reducible assumption) (by first | ktr_room | decide) (by first | ktr_units | decide) ?_)
            intro B9 h9 tk9 F9 N9
            try dsimp only
            k_steps
            unfold Stop
            k_here
            k_dflt (refine handL _ _ _ _ _ _ _ _ _ _ _ _ _ _ _ _ _ _ _ _ (by k_asm) (by k_asm) (by k_asm) (by k_asm) (by k_asm) (by first | exact rfl | assumption) trivial (by first | ktr_room | decide) (by first | ktr_units | decide) ?_)
            intro h9 tk9 F9 N9
            try dsimp only
            k_steps
            unfold Stop
            k_here
            k_dflt (refine handL _ _ _ _ _ _ _ _ _ _ _ _ _ _ _ _ _ _ _ _ (by k_asm) (by k_asm) (by k_asm) (by k_asm) (by k_asm) (by first | exact rfl | assumption) trivial (by first | ktr_room | decide) (by first | ktr_units | decide) ?_)
            intro h9 tk9 F9 N9
            try dsimp only
            k_steps
            unfold Stop
            k_here
            k_dflt (refine walkN _ _ _ _ _ _ _ _ _ _ _ _ _ _ _ _ _ _ _ _ _ (by k_asm) (by k_asm) (by k_asm) (by k_asm) (by k_asm) (by first | exact rfl | assumption) (And.intro (by k_mem) (And.intro (dmono (by with_reducible assumption) (fun p hp => by repeat (first | exact hp | apply List.Mem.tail))) (And.intro (by with_reducible assumption) (by with_reducible assumption)))) (by first | ktr_room | decide) (by first | ktr_units | decide) ?_)
            intro v9 t9 h9 tk9 hv9 F9 N9
            try dsimp only
            k_steps
            unfold Stop
            k_here
            k_dflt (refine true_ne (by ked_read) (by ked_read) (by ke_room) ?_)
            k_steps
            unfold Stop
            with_reducible rename News _ _ _ _ => hN9
            with_reducible rename Fr _ _ _ _ => hF9
            exact wEnd hI hF9 (fun p hp => hN9 p (by repeat (first | with_reducible exact hp | with_reducible refine List.mem_cons_of_mem _ ?_))) ⟨rfl, fun y h1 h2 h3 h4 h5 h6 h7 h8 => by (dsimp only [mO]; repeat (first | rw [if_neg h1] | rw [if_neg h2] | rw [if_neg h3] | rw [if_neg h4] | rw [if_neg h5] | rw [if_neg h6] | rw [if_neg h7] | rw [if_neg h8]))⟩
          rcases Classical.em (P < 5) with hp5 | hp5
          · -- below 5
            have f1 := o1_rd hb (kn3 hpl0 hp3)
            have f2 := le4 (len_p hb.fine.len) (by decide)
            have f3 := fine_prep (fine_q (fine_p hb.fine)) (by decide)
            have f9 := o1_mid hb (kn3 hpl0 hp3) (kp5 hpl0 hp5)
            refine stopIn (stopOut ?_)
            k_steps
            unfold Stop
            k_here
            k_dflt (refine handR1 _ _ _ _ _ _ _ _ _ _ _ _ _ _ _ _ _ (by k_asm) (by k_asm) (by k_asm) (by k_asm) (by k_asm) (by first | exact rfl | assumption) (by with_reducible assumption) (by with_reducible assumption) (by first | ktr_room | decide) (by first | ktr_units | decide) ?_)
            intro h9 tk9 t9 F9 N9
            try dsimp only
            k_steps
            unfold Stop
            k_here
            k_dflt (refine handS _ _ _ _ _ _ _ _ _ _ _ _ _ _ _ _ _ _ _ _ (by k_asm) (by k_asm) (by k_asm) (by k_asm) (by k_asm) (by first | exact rfl | assumption) (by with_reducible assumption) (by first | ktr_room | decide) (by first | ktr_units | decide) ?_)
            intro h9 tk9 t9 F9 N9
            try dsimp only
            k_steps
            unfold Stop
            k_here
            k_dflt (refine handP _ _ _ _ _ _ _ _ _ _ _ _ _ _ _ _ _ _ _ _ (by k_asm) (by k_asm) (by k_asm) (by k_asm) (by k_asm) (by first | exact rfl | assumption) (by with_reducible assumption) (by first | ktr_room | decide) (by first | ktr_units | decide) ?_)
            intro h9 tk9 t9 F9 N9
            try dsimp only
            k_steps
            unfold Stop
            k_here
            k_dflt (refine walkN _ _ _ _ _ _ _ _ _ _ _ _ _ _ _ _ _ _ _ _ _ (by k_asm) (by k_asm) (by k_asm) (by k_asm) (by k_asm) (by first | exact rfl | assumption) (And.intro (by k_mem) (And.intro (dmono (by with_reducible assumption) (fun p hp => by repeat (first | exact hp | apply List.Mem.tail))) (And.intro (by with_reducible assumption) (by with_reducible assumption)))) (by first | ktr_room | decide) (by first | ktr_units | decide) ?_)
            intro v9 t9 h9 tk9 hv9 F9 N9
            try dsimp only
            k_steps
            unfold Stop
            k_here
            k_dflt (refine ne_same (by with_reducible assumption) (by first | assumption | exact emp_l) ?_)
            k_steps
            unfold Stop
            with_reducible rename News _ _ _ _ => hN9
            with_reducible rename Fr _ _ _ _ => hF9
            exact wEnd hI hF9 (fun p hp => hN9 p (by repeat (first | with_reducible exact hp | with_reducible refine List.mem_cons_of_mem _ ?_))) ⟨rfl, fun y h1 h2 h3 h4 h5 h6 h7 h8 => by (dsimp only [mO]; repeat (first | rw [if_neg h1] | rw [if_neg h2] | rw [if_neg h3] | rw [if_neg h4] | rw [if_neg h5] | rw [if_neg h6] | rw [if_neg h7] | rw [if_neg h8]))⟩
          · -- 5 and on
            have f1 := o1_rd hb (kn3 hpl0 hp3)
            have f2 := le4 (len_p hb.fine.len) (by decide)
            have f3 := fine_prep (fine_q (fine_p hb.fine)) (by decide)
            have f9 := o1_end hb (kn5 hpl0 hp5)
            refine stopIn (stopOut ?_)
            k_steps
            unfold Stop
            k_here
            k_dflt (refine handR1 _ _ _ _ _ _ _ _ _ _ _ _ _ _ _ _ _ (by k_asm) (by k_asm) (by k_asm) (by k_asm) (by k_asm) (by first | exact rfl | assumption) (by with_reducible assumption) (by with_reducible assumption) (by first | ktr_room | decide) (by first | ktr_units | decide) ?_)
            intro h9 tk9 t9 F9 N9
            try dsimp only
            k_steps
            unfold Stop
            k_here
            k_dflt (refine handS _ _ _ _ _ _ _ _ _ _ _ _ _ _ _ _ _ _ _ _ (by k_asm) (by k_asm) (by k_asm) (by k_asm) (by k_asm) (by first | exact rfl | assumption) (by with_reducible assumption) (by first | ktr_room | decide) (by first | ktr_units | decide) ?_)
            intro h9 tk9 t9 F9 N9
            try dsimp only
            k_steps
            unfold Stop
            k_here
            k_dflt (refine handP _ _ _ _ _ _ _ _ _ _ _ _ _ _ _ _ _ _ _ _ (by k_asm) (by k_asm) (by k_asm) (by k_asm) (by k_asm) (by first | exact rfl | assumption) (by with_reducible assumption) (by first | ktr_room | decide) (by first | ktr_units | decide) ?_)
            intro h9 tk9 t9 F9 N9
            try dsimp only
            k_steps
            unfold Stop
            k_here
            k_dflt (refine walkN _ _ _ _ _ _ _ _ _ _ _ _ _ _ _ _ _ _ _ _ _ (by k_asm) (by k_asm) (by k_asm) (by k_asm) (by k_asm) (by first | exact rfl | assumption) (And.intro (by k_mem) (And.intro (dmono (by with_reducible assumption) (fun p hp => by repeat (first | exact hp | apply List.Mem.tail))) (And.intro (by with_reducible assumption) (by with_reducible assumption)))) (by first | ktr_room | decide) (by first | ktr_units | decide) ?_)
            intro v9 t9 h9 tk9 hv9 F9 N9
            try dsimp only
            k_steps
            unfold Stop
            k_here
            k_dflt (refine ne_same (by with_reducible assumption) (by first | assumption | exact emp_l) ?_)
            k_steps
            unfold Stop
            with_reducible rename News _ _ _ _ => hN9
            with_reducible rename Fr _ _ _ _ => hF9
            exact wEnd hI hF9 (fun p hp => hN9 p (by repeat (first | with_reducible exact hp | with_reducible refine List.mem_cons_of_mem _ ?_))) ⟨rfl, fun y h1 h2 h3 h4 h5 h6 h7 h8 => by (dsimp only [mO]; repeat (first | rw [if_neg h1] | rw [if_neg h2] | rw [if_neg h3] | rw [if_neg h4] | rw [if_neg h5] | rw [if_neg h6] | rw [if_neg h7] | rw [if_neg h8]))⟩
        · rcases Classical.em (P < 3) with hp3 | hp3
          · -- below 3
            have f1 := o1_no hb (kp hp3)
            refine stopIn (stopOut ?_)
            k_steps
            unfold Stop
            k_here
            k_dflt (refine handR2 _ _ _ _ _ _ _ _ _ _ _ _ _ _ _ _ _ (by k_asm) (by k_asm) (by k_asm) (by k_asm) (by k_asm) (by first | exact rfl | assumption) (by with_reducible assumption) (by with_reducible assumption) (by first | ktr_room | decide) (by first | ktr_units | decide) ?_)
            intro B9 h9 tk9 F9 N9
            try dsimp only
            k_steps
            unfold Stop
            k_here
            k_dflt (refine handL _ _ _ _ _ _ _ _ _ _ _ _ _ _ _ _ _ _ _ _ (by k_asm) (by k_asm) (by k_asm) (by k_asm) (by k_asm) (by first | exact rfl | assumption) trivial (by first | ktr_room | decide) (by first | ktr_units | decide) ?_)
            intro h9 tk9 F9 N9
            try dsimp only
            k_steps
            unfold Stop
            k_here
            k_dflt (refine handL _ _ _ _ _ _ _ _ _ _ _ _ _ _ _ _ _ _ _ _ (by k_asm) (by k_asm) (by k_asm) (by k_asm) (by k_asm) (by first | exact rfl | assumption) trivial (by first | ktr_room | decide) (by first | ktr_units | decide) ?_)
            intro h9 tk9 F9 N9
            try dsimp only
            k_steps
            unfold Stop
            k_here
            k_dflt (refine walkN _ _ _ _ _ _ _ _ _ _ _ _ _ _ _ _ _ _ _ _ _ (by k_asm) (by k_asm) (by k_asm) (by k_asm) (by k_asm) (by first | exact rfl | assumption) (And.intro (by k_mem) (And.intro (dmono (by with_reducible assumption) (fun p hp => by repeat (first | exact hp | apply List.Mem.tail))) (And.intro (by with_reducible assumption) (by with_reducible assumption)))) (by first | ktr_room | decide) (by first | ktr_units | decide) ?_)
            intro v9 t9 h9 tk9 hv9 F9 N9
            try dsimp only
            k_steps
            unfold Stop
            k_here
            k_dflt (refine true_ne (by ked_read) (by ked_read) (by ke_room) ?_)
            k_steps
            unfold Stop
            with_reducible rename News _ _ _ _ => hN9
            with_reducible rename Fr _ _ _ _ => hF9
            exact wEnd hI hF9 (fun p hp => hN9 p (by repeat (first | with_reducible exact hp | with_reducible refine List.mem_cons_of_mem _ ?_))) ⟨rfl, fun y h1 h2 h3 h4 h5 h6 h7 h8 => by (dsimp only [mO]; repeat (first | rw [if_neg h1] | rw [if_neg h2] | rw [if_neg h3] | rw [if_neg h4] | rw [if_neg h5] | rw [if_neg h6] | rw [if_neg h7] | rw [if_neg h8]))⟩
          rcases Classical.em (P < 5) with hp5 | hp5
          · -- below 5
            have f1 := o1_rd hb (kn3 hpl0 hp3)
            have f2 := fine_prep (fine_p hb.fine) (by decide)
            have f3 := le4 (len_s (fine_p hb.fine)) (by decide)
            have f9 := o2_mid hb (kn3 hpl0 hp3) (kp5 hpl0 hp5)
            refine stopIn (stopOut ?_)
            k_steps
            unfold Stop
            k_here
            k_dflt (refine handR1 _ _ _ _ _ _ _ _ _ _ _ _ _ _ _ _ _ (by k_asm) (by k_asm) (by k_asm) (by k_asm) (by k_asm) (by first | exact rfl | assumption) (by with_reducible assumption) (by with_reducible assumption) (by first | ktr_room | decide) (by first | ktr_units | decide) ?_)
            intro h9 tk9 t9 F9 N9
            try dsimp only
            k_steps
            unfold Stop
            k_here
            k_dflt (refine handP _ _ _ _ _ _ _ _ _ _ _ _ _ _ _ _ _ _ _ _ (by k_asm) (by k_asm) (by k_asm) (by k_asm) (by k_asm) (by first | exact rfl | assumption) (by with_reducible assumption) (by first | ktr_room | decide) (by first | ktr_units | decide) ?_)
            intro h9 tk9 t9 F9 N9
            try dsimp only
            k_steps
            unfold Stop
            k_here
            k_dflt (refine handS _ _ _ _ _ _ _ _ _ _ _ _ _ _ _ _ _ _ _ _ (by k_asm) (by k_asm) (by k_asm) (by k_asm) (by k_asm) (by first | exact rfl | assumption) (by with_reducible assumption) (by first | ktr_room | decide) (by first | ktr_units | decide) ?_)
            intro h9 tk9 t9 F9 N9
            try dsimp only
            k_steps
            unfold Stop
            k_here
            k_dflt (refine walkN _ _ _ _ _ _ _ _ _ _ _ _ _ _ _ _ _ _ _ _ _ (by k_asm) (by k_asm) (by k_asm) (by k_asm) (by k_asm) (by first | exact rfl | assumption) (And.intro (by k_mem) (And.intro (dmono (by with_reducible assumption) (fun p hp => by repeat (first | exact hp | apply List.Mem.tail))) (And.intro (by with_reducible assumption) (by with_reducible assumption)))) (by first | ktr_room | decide) (by first | ktr_units | decide) ?_)
            intro v9 t9 h9 tk9 hv9 F9 N9
            try dsimp only
            k_steps
            unfold Stop
            k_here
            k_dflt (refine ne_same (by with_reducible assumption) (by first | assumption | exact emp_l) ?_)
            k_steps
            unfold Stop
            with_reducible rename News _ _ _ _ => hN9
            with_reducible rename Fr _ _ _ _ => hF9
            exact wEnd hI hF9 (fun p hp => hN9 p (by repeat (first | with_reducible exact hp | with_reducible refine List.mem_cons_of_mem _ ?_))) ⟨rfl, fun y h1 h2 h3 h4 h5 h6 h7 h8 => by (dsimp only [mO]; repeat (first | rw [if_neg h1] | rw [if_neg h2] | rw [if_neg h3] | rw [if_neg h4] | rw [if_neg h5] | rw [if_neg h6] | rw [if_neg h7] | rw [if_neg h8]))⟩
          · -- 5 and on
            have f1 := o1_rd hb (kn3 hpl0 hp3)
            have f2 := fine_prep (fine_p hb.fine) (by decide)
            have f3 := le4 (len_s (fine_p hb.fine)) (by decide)
            have f9 := o2_end hb (kn5 hpl0 hp5)
            refine stopIn (stopOut ?_)
            k_steps
            unfold Stop
            k_here
            k_dflt (refine handR1 _ _ _ _ _ _ _ _ _ _ _ _ _ _ _ _ _ (by k_asm) (by k_asm) (by k_asm) (by k_asm) (by k_asm) (by first | exact rfl | assumption) (by with_reducible assumption) (by with_reducible assumption) (by first | ktr_room | decide) (by first | ktr_units | decide) ?_)
            intro h9 tk9 t9 F9 N9
            try dsimp only
            k_steps
            unfold Stop
            k_here
            k_dflt (refine handP _ _ _ _ _ _ _ _ _ _ _ _ _ _ _ _ _ _ _ _ (by k_asm) (by k_asm) (by k_asm) (by k_asm) (by k_asm) (by first | exact rfl | assumption) (by with_reducible assumption) (by first | ktr_room | decide) (by first | ktr_units | decide) ?_)
            intro h9 tk9 t9 F9 N9
            try dsimp only
            k_steps
            unfold Stop
            k_here
            k_dflt (refine handS _ _ _ _ _ _ _ _ _ _ _ _ _ _ _ _ _ _ _ _ (by k_asm) (by k_asm) (by k_asm) (by k_asm) (by k_asm) (by first | exact rfl | assumption) (by with_reducible assumption) (by first | ktr_room | decide) (by first | ktr_units | decide) ?_)
            intro h9 tk9 t9 F9 N9
            try dsimp only
            k_steps
            unfold Stop
            k_here
            k_dflt (refine walkN _ _ _ _ _ _ _ _ _ _ _ _ _ _ _ _ _ _ _ _ _ (by k_asm) (by k_asm) (by k_asm) (by k_asm) (by k_asm) (by first | exact rfl | assumption) (And.intro (by k_mem) (And.intro (dmono (by with_reducible assumption) (fun p hp => by repeat (first | exact hp | apply List.Mem.tail))) (And.intro (by with_reducible assumption) (by with_reducible assumption)))) (by first | ktr_room | decide) (by first | ktr_units | decide) ?_)
            intro v9 t9 h9 tk9 hv9 F9 N9
            try dsimp only
            k_steps
            unfold Stop
            k_here
            k_dflt (refine ne_same (by with_reducible assumption) (by first | assumption | exact emp_l) ?_)
            k_steps
            unfold Stop
            with_reducible rename News _ _ _ _ => hN9
            with_reducible rename Fr _ _ _ _ => hF9
            exact wEnd hI hF9 (fun p hp => hN9 p (by repeat (first | with_reducible exact hp | with_reducible refine List.mem_cons_of_mem _ ?_))) ⟨rfl, fun y h1 h2 h3 h4 h5 h6 h7 h8 => by (dsimp only [mO]; repeat (first | rw [if_neg h1] | rw [if_neg h2] | rw [if_neg h3] | rw [if_neg h4] | rw [if_neg h5] | rw [if_neg h6] | rw [if_neg h7] | rw [if_neg h8]))⟩
        · rcases Classical.em (P < 3) with hp3 | hp3
          · -- below 3
            have f0 := le4 (len_q hb.fine.len) (by decide)
            have f1 := o3_no hb (kp hp3)
            refine stopIn (stopOut ?_)
            k_steps
            unfold Stop
            k_here
            k_dflt (refine handS _ _ _ _ _ _ _ _ _ _ _ _ _ _ _ _ _ _ _ _ (by k_asm) (by k_asm) (by k_asm) (by k_asm) (by k_asm) (by first | exact rfl | assumption) (by with_reducible assumption) (by first | ktr_room | decide) (by first | ktr_units | decide) ?_)
            intro h9 tk9 t9 F9 N9
            try dsimp only
            k_steps
            unfold Stop
            k_here
            k_dflt (refine handR2 _ _ _ _ _ _ _ _ _ _ _ _ _ _ _ _ _ (by k_asm) (by k_asm) (by k_asm) (by k_asm) (by k_asm) (by first | exact rfl | assumption) (by with_reducible assumption) (by with_reducible assumption) (by first | ktr_room | decide) (by first | ktr_units | decide) ?_)
            intro B9 h9 tk9 F9 N9
            try dsimp only
            k_steps
            unfold Stop
            k_here
            k_dflt (refine handL _ _ _ _ _ _ _ _ _ _ _ _ _ _ _ _ _ _ _ _ (by k_asm) (by k_asm) (by k_asm) (by k_asm) (by k_asm) (by first | exact rfl | assumption) trivial (by first | ktr_room | decide) (by first | ktr_units | decide) ?_)
            intro h9 tk9 F9 N9
            try dsimp only
            k_steps
            unfold Stop
            k_here
            k_dflt (refine walkN _ _ _ _ _ _ _ _ _ _ _ _ _ _ _ _ _ _ _ _ _ (by k_asm) (by k_asm) (by k_asm) (by k_asm) (by k_asm) (by first | exact rfl | assumption) (And.intro (by k_mem) (And.intro (dmono (by with_reducible assumption) (fun p hp => by repeat (first | exact hp | apply List.Mem.tail))) (And.intro (by with_reducible assumption) (by with_reducible assumption)))) (by first | ktr_room | decide) (by first | ktr_units | decide) ?_)
            intro v9 t9 h9 tk9 hv9 F9 N9
            try dsimp only
            k_steps
            unfold Stop
            k_here
            k_dflt (refine true_ne (by ked_read) (by ked_read) (by ke_room) ?_)
            k_steps
            unfold Stop
            with_reducible rename News _ _ _ _ => hN9
            with_reducible rename Fr _ _ _ _ => hF9
            exact wEnd hI hF9 (fun p hp => hN9 p (by repeat (first | with_reducible exact hp | with_reducible refine List.mem_cons_of_mem _ ?_))) ⟨rfl, fun y h1 h2 h3 h4 h5 h6 h7 h8 => by (dsimp only [mO]; repeat (first | rw [if_neg h1] | rw [if_neg h2] | rw [if_neg h3] | rw [if_neg h4] | rw [if_neg h5] | rw [if_neg h6] | rw [if_neg h7] | rw [if_neg h8]))⟩
          rcases Classical.em (P < 5) with hp5 | hp5
          · -- below 5
            have f0 := le4 (len_q hb.fine.len) (by decide)
            have f1 := o3_rd hb (kn3 hpl0 hp3)
            have f3 := fine_prep (fine_p (fine_q hb.fine)) (by decide)
            have f9 := o3_mid hb (kn3 hpl0 hp3) (kp5 hpl0 hp5)
            refine stopIn (stopOut ?_)
            k_steps
            unfold Stop
            k_here
            k_dflt (refine handS _ _ _ _ _ _ _ _ _ _ _ _ _ _ _ _ _ _ _ _ (by k_asm) (by k_asm) (by k_asm) (by k_asm) (by k_asm) (by first | exact rfl | assumption) (by with_reducible assumption) (by first | ktr_room | decide) (by first | ktr_units | decide) ?_)
            intro h9 tk9 t9 F9 N9
            try dsimp only
            k_steps
            unfold Stop
            k_here
            k_dflt (refine handR1 _ _ _ _ _ _ _ _ _ _ _ _ _ _ _ _ _ (by k_asm) (by k_asm) (by k_asm) (by k_asm) (by k_asm) (by first | exact rfl | assumption) (by with_reducible assumption) (by with_reducible assumption) (by first | ktr_room | decide) (by first | ktr_units | decide) ?_)
            intro h9 tk9 t9 F9 N9
            try dsimp only
            k_steps
            unfold Stop
            k_here
            k_dflt (refine handP _ _ _ _ _ _ _ _ _ _ _ _ _ _ _ _ _ _ _ _ (by k_asm) (by k_asm) (by k_asm) (by k_asm) (by k_asm) (by first | exact rfl | assumption) (by with_reducible assumption) (by first | ktr_room | decide) (by first | ktr_units | decide) ?_)
            intro h9 tk9 t9 F9 N9
            try dsimp only
            k_steps
            unfold Stop
            k_here
            k_dflt (refine walkN _ _ _ _ _ _ _ _ _ _ _ _ _ _ _ _ _ _ _ _ _ (by k_asm) (by k_asm) (by k_asm) (by k_asm) (by k_asm) (by first | exact rfl | assumption) (And.intro (by k_mem) (And.intro (dmono (by with_reducible assumption) (fun p hp => by repeat (first | exact hp | apply List.Mem.tail))) (And.intro (by with_reducible assumption) (by with_reducible assumption)))) (by first | ktr_room | decide) (by first | ktr_units | decide) ?_)
            intro v9 t9 h9 tk9 hv9 F9 N9
            try dsimp only
            k_steps
            unfold Stop
            k_here
            k_dflt (refine ne_same (by with_reducible assumption) (by first | assumption | exact emp_l) ?_)
            k_steps
            unfold Stop
            with_reducible rename News _ _ _ _ => hN9
            with_reducible rename Fr _ _ _ _ => hF9
            exact wEnd hI hF9 (fun p hp => hN9 p (by repeat (first | with_reducible exact hp | with_reducible refine List.mem_cons_of_mem _ ?_))) ⟨rfl, fun y h1 h2 h3 h4 h5 h6 h7 h8 => by (dsimp only [mO]; repeat (first | rw [if_neg h1] | rw [if_neg h2] | rw [if_neg h3] | rw [if_neg h4] | rw [if_neg h5] | rw [if_neg h6] | rw [if_neg h7] | rw [if_neg h8]))⟩
          · -- 5 and on
            have f0 := le4 (len_q hb.fine.len) (by decide)
            have f1 := o3_rd hb (kn3 hpl0 hp3)
            have f3 := fine_prep (fine_p (fine_q hb.fine)) (by decide)
            have f9 := o3_end hb (kn5 hpl0 hp5)
            refine stopIn (stopOut ?_)
            k_steps
            unfold Stop
            k_here
            k_dflt (refine handS _ _ _ _ _ _ _ _ _ _ _ _ _ _ _ _ _ _ _ _ (by k_asm) (by k_asm) (by k_asm) (by k_asm) (by k_asm) (by first | exact rfl | assumption) (by with_reducible assumption) (by first | ktr_room | decide) (by first | ktr_units | decide) ?_)
            intro h9 tk9 t9 F9 N9
            try dsimp only
            k_steps
            unfold Stop
            k_here
            k_dflt (refine handR1 _ _ _ _ _ _ _ _ _ _ _ _ _ _ _ _ _ (by k_asm) (by k_asm) (by k_asm) (by k_asm) (by k_asm) (by first | exact rfl | assumption) (by with_reducible assumption) (by with_reducible assumption) (by first | ktr_room | decide) (by first | ktr_units | decide) ?_)
            intro h9 tk9 t9 F9 N9
            try dsimp only
            k_steps
            unfold Stop
            k_here
            k_dflt (refine handP _ _ _ _ _ _ _ _ _ _ _ _ _ _ _ _ _ _ _ _ (by k_asm) (by k_asm) (by k_asm) (by k_asm) (by k_asm) (by first | exact rfl | assumption) (by with_reducible assumption) (by first | ktr_room | decide) (by first | ktr_units | decide) ?_)
            intro h9 tk9 t9 F9 N9
            try dsimp only
            k_steps
            unfold Stop
            k_here
            k_dflt (refine walkN _ _ _ _ _ _ _ _ _ _ _ _ _ _ _ _ _ _ _ _ _ (by k_asm) (by k_asm) (by k_asm) (by k_asm) (by k_asm) (by first | exact rfl | assumption) (And.intro (by k_mem) (And.intro (dmono (by with_reducible assumption) (fun p hp => by repeat (first | exact hp | apply List.Mem.tail))) (And.intro (by with_reducible assumption) (by with_reducible assumption)))) (by first | ktr_room | decide) (by first | ktr_units | decide) ?_)
            intro v9 t9 h9 tk9 hv9 F9 N9
            try dsimp only
            k_steps
            unfold Stop
            k_here
            k_dflt (refine ne_same (by with_reducible assumption) (by first | assumption | exact emp_l) ?_)
            k_steps
            unfold Stop
            with_reducible rename News _ _ _ _ => hN9
            with_reducible rename Fr _ _ _ _ => hF9
            exact wEnd hI hF9 (fun p hp => hN9 p (by repeat (first | with_reducible exact hp | with_reducible refine List.mem_cons_of_mem _ ?_))) ⟨rfl, fun y h1 h2 h3 h4 h5 h6 h7 h8 => by (dsimp only [mO]; repeat (first | rw [if_neg h1] | rw [if_neg h2] | rw [if_neg h3] | rw [if_neg h4] | rw [if_neg h5] | rw [if_neg h6] | rw [if_neg h7] | rw [if_neg h8]))⟩
        · -- order 4
          have f1 := fine_prep (fine_q hb.fine) (by decide)
          have f2 := le4 (len_s (fine_q hb.fine)) (by decide)
          obtain ⟨f3, f9⟩ := o4_rd hb
          refine stopIn (stopOut ?_)
          k_steps
          unfold Stop
          k_here
          k_dflt (refine handS _ _ _ _ _ _ _ _ _ _ _ _ _ _ _ _ _ _ _ _ (by k_asm) (by k_asm) (by k_asm) (by k_asm) (by k_asm) (by first | exact rfl | assumption) (by with_reducible assumption) (by first | ktr_room | decide) (by first | ktr_units | decide) ?_)
          intro h9 tk9 t9 F9 N9
          try dsimp only
          k_steps
          unfold Stop
          k_here
          k_dflt (refine handP _ _ _ _ _ _ _ _ _ _ _ _ _ _ _ _ _ _ _ _ (by k_asm) (by k_asm) (by k_asm) (by k_asm) (by k_asm) (by first | exact rfl | assumption) (by with_reducible assumption) (by first | ktr_room | decide) (by first | ktr_units | decide) ?_)
          intro h9 tk9 t9 F9 N9
          try dsimp only
          k_steps
          unfold Stop
          k_here
          k_dflt (refine handR1 _ _ _ _ _ _ _ _ _ _ _ _ _ _ _ _ _ (by k_asm) (by k_asm) (by k_asm) (by k_asm) (by k_asm) (by first | exact rfl | assumption) (by with_reducible assumption) (by with_reducible assumption) (by first | ktr_room | decide) (by first | ktr_units | decide) ?_)
          intro h9 tk9 t9 F9 N9
          try dsimp only
          k_steps
          unfold Stop
          k_here
          k_dflt (refine walkN _ _ _ _ _ _ _ _ _ _ _ _ _ _ _ _ _ _ _ _ _ (by k_asm) (by k_asm) (by k_asm) (by k_asm) (by k_asm) (by first | exact rfl | assumption) (And.intro (by k_mem) (And.intro (dmono (by with_reducible assumption) (fun p hp => by repeat (first | exact hp | apply List.Mem.tail))) (And.intro (by with_reducible assumption) (by with_reducible assumption)))) (by first | ktr_room | decide) (by first | ktr_units | decide) ?_)
          intro v9 t9 h9 tk9 hv9 F9 N9
          try dsimp only
          k_steps
          unfold Stop
          k_here
          k_dflt (refine ne_same (by with_reducible assumption) (by first | assumption | exact emp_l) ?_)
          k_steps
          unfold Stop
          with_reducible rename News _ _ _ _ => hN9
          with_reducible rename Fr _ _ _ _ => hF9
          exact wEnd hI hF9 (fun p hp => hN9 p (by repeat (first | with_reducible exact hp | with_reducible refine List.mem_cons_of_mem _ ?_))) ⟨rfl, fun y h1 h2 h3 h4 h5 h6 h7 h8 => by (dsimp only [mO]; repeat (first | rw [if_neg h1] | rw [if_neg h2] | rw [if_neg h3] | rw [if_neg h4] | rw [if_neg h5] | rw [if_neg h6] | rw [if_neg h7] | rw [if_neg h8]))⟩
        · -- order 5
          have f1 := fine_prep hb.fine (by decide)
          have f2 := le4 (len_s hb.fine) (by decide)
          obtain ⟨f3, f9⟩ := o5_rd hb
          have f4 := le4 (len_p (len_s hb.fine)) (by decide)
          refine stopIn (stopOut ?_)
          k_steps
          unfold Stop
          k_here
          k_dflt (refine handP _ _ _ _ _ _ _ _ _ _ _ _ _ _ _ _ _ _ _ _ (by k_asm) (by k_asm) (by k_asm) (by k_asm) (by k_asm) (by first | exact rfl | assumption) (by with_reducible assumption) (by first | ktr_room | decide) (by first | ktr_units | decide) ?_)
          intro h9 tk9 t9 F9 N9
          try dsimp only
          k_steps
          unfold Stop
          k_here
          k_dflt (refine handR1 _ _ _ _ _ _ _ _ _ _ _ _ _ _ _ _ _ (by k_asm) (by k_asm) (by k_asm) (by k_asm) (by k_asm) (by first | exact rfl | assumption) (by with_reducible assumption) (by with_reducible assumption) (by first | ktr_room | decide) (by first | ktr_units | decide) ?_)
          intro h9 tk9 t9 F9 N9
          try dsimp only
          k_steps
          unfold Stop
          k_here
          k_dflt (refine handS _ _ _ _ _ _ _ _ _ _ _ _ _ _ _ _ _ _ _ _ (by k_asm) (by k_asm) (by k_asm) (by k_asm) (by k_asm) (by first | exact rfl | assumption) (by with_reducible assumption) (by first | ktr_room | decide) (by first | ktr_units | decide) ?_)
          intro h9 tk9 t9 F9 N9
          try dsimp only
          k_steps
          unfold Stop
          k_here
          k_dflt (refine walkN _ _ _ _ _ _ _ _ _ _ _ _ _ _ _ _ _ _ _ _ _ (by k_asm) (by k_asm) (by k_asm) (by k_asm) (by k_asm) (by first | exact rfl | assumption) (And.intro (by k_mem) (And.intro (dmono (by with_reducible assumption) (fun p hp => by repeat (first | exact hp | apply List.Mem.tail))) (And.intro (by with_reducible assumption) (by with_reducible assumption)))) (by first | ktr_room | decide) (by first | ktr_units | decide) ?_)
          intro v9 t9 h9 tk9 hv9 F9 N9
          try dsimp only
          k_steps
          unfold Stop
          k_here
          k_dflt (refine ne_same (by with_reducible assumption) (by first | assumption | exact emp_l) ?_)
          k_steps
          unfold Stop
          with_reducible rename News _ _ _ _ => hN9
          with_reducible rename Fr _ _ _ _ => hF9
          exact wEnd hI hF9 (fun p hp => hN9 p (by repeat (first | with_reducible exact hp | with_reducible refine List.mem_cons_of_mem _ ?_))) ⟨rfl, fun y h1 h2 h3 h4 h5 h6 h7 h8 => by (dsimp only [mO]; repeat (first | rw [if_neg h1] | rw [if_neg h2] | rw [if_neg h3] | rw [if_neg h4] | rw [if_neg h5] | rw [if_neg h6] | rw [if_neg h7] | rw [if_neg h8]))⟩
        · -- order 6
          have f1 := fine_prep hb.fine (by decide)
          have f2 := le4 (len_s hb.fine) (by decide)
          have f3 := le4 (len_q (len_s hb.fine)) (by decide)
          obtain ⟨f4, f9⟩ := o6_rd hb
          refine stopIn (stopOut ?_)
          k_steps
          unfold Stop
          k_here
          k_dflt (refine handP _ _ _ _ _ _ _ _ _ _ _ _ _ _ _ _ _ _ _ _ (by k_asm) (by k_asm) (by k_asm) (by k_asm) (by k_asm) (by first | exact rfl | assumption) (by with_reducible assumption) (by first | ktr_room | decide) (by first | ktr_units | decide) ?_)
          intro h9 tk9 t9 F9 N9
          try dsimp only
          k_steps
          unfold Stop
          k_here
          k_dflt (refine handS _ _ _ _ _ _ _ _ _ _ _ _ _ _ _ _ _ _ _ _ (by k_asm) (by k_asm) (by k_asm) (by k_asm) (by k_asm) (by first | exact rfl | assumption) (by with_reducible assumption) (by first | ktr_room | decide) (by first | ktr_units | decide) ?_)
          intro h9 tk9 t9 F9 N9
          try dsimp only
          k_steps
          unfold Stop
          k_here
          k_dflt (refine handR1 _ _ _ _ _ _ _ _ _ _ _ _ _ _ _ _ _ (by k_asm) (by k_asm) (by k_asm) (by k_asm) (by k_asm) (by first | exact rfl | assumption) (by with_reducible assumption) (by with_reducible assumption) (by first | ktr_room | decide) (by first | ktr_units | decide) ?_)
          intro h9 tk9 t9 F9 N9
          try dsimp only
          k_steps
          unfold Stop
          k_here
          k_dflt (refine walkN _ _ _ _ _ _ _ _ _ _ _ _ _ _ _ _ _ _ _ _ _ (by k_asm) (by k_asm) (by k_asm) (by k_asm) (by k_asm) (by first | exact rfl | assumption) (And.intro (by k_mem) (And.intro (dmono (by with_reducible assumption) (fun p hp => by repeat (first | exact hp | apply List.Mem.tail))) (And.intro (by with_reducible assumption) (by with_reducible assumption)))) (by first | ktr_room | decide) (by first | ktr_units | decide) ?_)
          intro v9 t9 h9 tk9 hv9 F9 N9
          try dsimp only
          k_steps
          unfold Stop
          k_here
          k_dflt (refine ne_same (by with_reducible assumption) (by first | assumption | exact emp_l) ?_)
          k_steps
          unfold Stop
          with_reducible rename News _ _ _ _ => hN9
          with_reducible rename Fr _ _ _ _ => hF9
          exact wEnd hI hF9 (fun p hp => hN9 p (by repeat (first | with_reducible exact hp | with_reducible refine List.mem_cons_of_mem _ ?_))) ⟨rfl, fun y h1 h2 h3 h4 h5 h6 h7 h8 => by (dsimp only [mO]; repeat (first | rw [if_neg h1] | rw [if_neg h2] | rw [if_neg h3] | rw [if_neg h4] | rw [if_neg h5] | rw [if_neg h6] | rw [if_neg h7] | rw [if_neg h8]))⟩
end Mine

end
section
open PySem PySem.W PyProof.Rows
set_option maxRecDepth 100000
namespace Mine
set_option maxHeartbeats 2000000 in
theorem cw (hc : WalkO q01 loose01 (XL q01 []) (Hook.says HK) PySem.Challenge.rw_tr0050_01.row.toRowW ⟨S "law", fpar21, fbody21, fsco21, ⟨103, 0, 123, 15⟩⟩ [] fun f vs => PySem.call f vs) : PySem.Challenge.rw_tr0050_01.Holds := by
  w_on; o_law
  refine holds_open (q := q01) (loose := loose01) (Xt := Xt01) (XP := XL q01 []) (Yf := Hook.obs HK) (Ya := Hook.val HK) (YP := Hook.says HK) (N := 30000) head (Hook.of HK) (Hook.keeps HK) (fun s e => xl_of s (Bool.and_eq_true_iff.mp e).1) XL.keeps (by rfl) (by rfl) (by rfl) (fun s e => recFacts_of (Bool.and_eq_true_iff.mp e).2) (by first | rfl | fail "open_line: no head takes a call that writes beside a table") (by first | assumption | decide +kernel) (by decide +kernel) ⟨rfl, rfl, rfl, rfl, rfl, by decide +kernel⟩ ?hw hc
  w_witness2
end Mine
end
theorem PySem.Challenge.cw_tr0050_01_holds : PySem.Challenge.rw_tr0050_01.Holds := by
  exact Mine.cw Mine.hc

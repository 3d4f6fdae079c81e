import PyProof.Rows.All
import Wide.All
import OpenK.AllK
import Wide.FinOn
import Lean
import PySem.Challenge.RW_st0017_01
set_option maxRecDepth 100000
set_option Elab.async false
set_option linter.unusedVariables false
/-! part KText -/
section
set_option maxRecDepth 100000
set_option linter.unusedVariables false
open PySem PySem.W PyProof.Rows
namespace Mine
noncomputable abbrev pw : Program := PySem.Challenge.pw_st0017_01
noncomputable def cell (k : Nat) : Stmt := ((behindTheImports pw)[k]?).getD (.Pass default)
noncomputable def fArgs : Stmt → Arguments
  | .FunctionDef _ a _ _ _ _ _ _ _ _ => a
  | _ => default
noncomputable def fBody : Stmt → List Stmt
  | .FunctionDef _ _ b _ _ _ _ _ _ _ => b
  | _ => []
noncomputable def fScope : Stmt → Scope
  | .FunctionDef _ _ _ _ _ _ c _ _ _ => c
  | _ => default
@[irreducible] noncomputable def ar2 : Arguments := fArgs (cell 2)
@[irreducible] noncomputable def bd2 : List Stmt := fBody (cell 2)
@[irreducible] noncomputable def sc2 : Scope := fScope (cell 2)
@[irreducible] noncomputable def ar4 : Arguments := fArgs (cell 4)
@[irreducible] noncomputable def bd4 : List Stmt := fBody (cell 4)
@[irreducible] noncomputable def sc4 : Scope := fScope (cell 4)
@[irreducible] noncomputable def ar9 : Arguments := fArgs (cell 9)
@[irreducible] noncomputable def bd9 : List Stmt := fBody (cell 9)
@[irreducible] noncomputable def sc9 : Scope := fScope (cell 9)
@[irreducible] noncomputable def ar11 : Arguments := fArgs (cell 11)
@[irreducible] noncomputable def bd11 : List Stmt := fBody (cell 11)
@[irreducible] noncomputable def sc11 : Scope := fScope (cell 11)
@[irreducible] noncomputable def ar12 : Arguments := fArgs (cell 12)
@[irreducible] noncomputable def bd12 : List Stmt := fBody (cell 12)
@[irreducible] noncomputable def sc12 : Scope := fScope (cell 12)
@[irreducible] noncomputable def ar14 : Arguments := fArgs (cell 14)
@[irreducible] noncomputable def bd14 : List Stmt := fBody (cell 14)
@[irreducible] noncomputable def sc14 : Scope := fScope (cell 14)
@[irreducible] noncomputable def ar15 : Arguments := fArgs (cell 15)
@[irreducible] noncomputable def bd15 : List Stmt := fBody (cell 15)
@[irreducible] noncomputable def sc15 : Scope := fScope (cell 15)
@[irreducible] noncomputable def ar16 : Arguments := fArgs (cell 16)
@[irreducible] noncomputable def bd16 : List Stmt := fBody (cell 16)
@[irreducible] noncomputable def sc16 : Scope := fScope (cell 16)
@[irreducible] noncomputable def ar17 : Arguments := fArgs (cell 17)
@[irreducible] noncomputable def bd17 : List Stmt := fBody (cell 17)
@[irreducible] noncomputable def sc17 : Scope := fScope (cell 17)
@[irreducible] noncomputable def ar18 : Arguments := fArgs (cell 18)
@[irreducible] noncomputable def bd18 : List Stmt := fBody (cell 18)
@[irreducible] noncomputable def sc18 : Scope := fScope (cell 18)
@[irreducible] noncomputable def ar19 : Arguments := fArgs (cell 19)
@[irreducible] noncomputable def bd19 : List Stmt := fBody (cell 19)
@[irreducible] noncomputable def sc19 : Scope := fScope (cell 19)
@[irreducible] noncomputable def ar20 : Arguments := fArgs (cell 20)
@[irreducible] noncomputable def bd20 : List Stmt := fBody (cell 20)
@[irreducible] noncomputable def sc20 : Scope := fScope (cell 20)
@[irreducible] noncomputable def ar21 : Arguments := fArgs (cell 21)
@[irreducible] noncomputable def bd21 : List Stmt := fBody (cell 21)
@[irreducible] noncomputable def sc21 : Scope := fScope (cell 21)
noncomputable def o2 (P : Params) : Obj := ⟨.none, none, (.dict (List.toArray [⟨PyData.keyHash P (Str.ofString "\x69mport.loaded._sre"), (.str (Str.ofString "\x69mport.loaded._sre") 183), (.bool true)⟩, ⟨PyData.keyHash P (Str.ofString "class._frozen_importlib.BuiltinImporter"), (.str (Str.ofString "class._frozen_importlib.BuiltinImporter") 185), (.ref 14)⟩, ⟨PyData.keyHash P (Str.ofString "watched.\x69mport"), (.str (Str.ofString "watched.\x69mport") 206), (.ref 18)⟩, ⟨PyData.keyHash P (Str.ofString "class._frozen_importlib.ModuleSpec"), (.str (Str.ofString "class._frozen_importlib.ModuleSpec") 216), (.ref 22)⟩, ⟨PyData.keyHash P (Str.ofString "sys.modules.booked-epoch"), (.str (Str.ofString "sys.modules.booked-epoch") 245), (.int 3 0)⟩, ⟨PyData.keyHash P (Str.ofString "\x69mport.later-laid._sre"), (.str (Str.ofString "\x69mport.later-laid._sre") 270), (.bool true)⟩, ⟨PyData.keyHash P (Str.ofString "watched.library"), (.str (Str.ofString "watched.library") 272), (.ref 27)⟩, ⟨PyData.keyHash P (Str.ofString "watched.library-objects"), (.str (Str.ofString "watched.library-objects") 0), (.str (Str.mk #[12]) 0)⟩, ⟨PyData.keyHash P (Str.ofString "watched.library-deep._sre"), (.str (Str.ofString "watched.library-deep._sre") 273), (.str (Str.mk #[4, 0, 0, 11, 4, 0, 0, 11, 4, 0, 0, 3, 4, 0, 0, 11, 8, 4, 100, 105, 99, 116, 2]) 0)⟩]) 9), List.toArray []⟩
noncomputable def o3 (P : Params) : Obj := ⟨(.type "dict"), none, (.dict (List.toArray [⟨PyData.keyHash P (Str.ofString "__name__"), (.str (Str.ofString "__name__") 165), (.str (Str.ofString "law_st0017_01") 2395)⟩, ⟨PyData.keyHash P (Str.ofString "__doc__"), (.str (Str.ofString "__doc__") 166), .none⟩, ⟨PyData.keyHash P (Str.ofString "__package__"), (.str (Str.ofString "__package__") 167), .none⟩, ⟨PyData.keyHash P (Str.ofString "__loader__"), (.str (Str.ofString "__loader__") 168), (.builtin "__main__.__loader__#opaque")⟩, ⟨PyData.keyHash P (Str.ofString "__spec__"), (.str (Str.ofString "__spec__") 169), .none⟩, ⟨PyData.keyHash P (Str.ofString "__annotations__"), (.str (Str.ofString "__annotations__") 170), (.ref 6)⟩, ⟨PyData.keyHash P (Str.ofString "__builtins__"), (.str (Str.ofString "__builtins__") 171), (.ref 4)⟩, ⟨PyData.keyHash P (Str.ofString "__file__"), (.str (Str.ofString "__file__") 173), (.str (Str.ofString "/claim/cut.py") 172)⟩, ⟨PyData.keyHash P (Str.ofString "__cached__"), (.str (Str.ofString "__cached__") 174), .none⟩, ⟨PyData.keyHash P (Str.ofString "_sre"), (.str (Str.ofString "_sre") 275), (.ref 12)⟩, ⟨PyData.keyHash P (Str.ofString "b1_set"), (.str (Str.ofString "b1_set") 343), (.ref 39)⟩, ⟨PyData.keyHash P (Str.ofString "in_table_b1"), (.str (Str.ofString "in_table_b1") 350), (.ref 49)⟩, ⟨PyData.keyHash P (Str.ofString "b3_exceptions"), (.str (Str.ofString "b3_exceptions") 2301), (.ref 50)⟩, ⟨PyData.keyHash P (Str.ofString "map_table_b3"), (.str (Str.ofString "map_table_b3") 2309), (.ref 95)⟩, ⟨PyData.keyHash P (Str.ofString "_twin_re_1"), (.str (Str.ofString "_twin_re_1") 2327), (.ref 100)⟩, ⟨PyData.keyHash P (Str.ofString "_twin_re_2"), (.str (Str.ofString "_twin_re_2") 2369), (.ref 105)⟩, ⟨PyData.keyHash P (Str.ofString "CRLF"), (.str (Str.ofString "CRLF") 2371), (.str (Str.mk #[13, 10]) 2370)⟩, ⟨PyData.keyHash P (Str.ofString "quotedata"), (.str (Str.ofString "quotedata") 2378), (.ref 112)⟩, ⟨PyData.keyHash P (Str.ofString "_raise_serialization_error"), (.str (Str.ofString "_raise_serialization_error") 2387), (.ref 119)⟩, ⟨PyData.keyHash P (Str.ofString "_escape_cdata"), (.str (Str.ofString "_escape_cdata") 2394), (.ref 126)⟩, ⟨PyData.keyHash P (Str.ofString "_law_nothing"), (.str (Str.ofString "_law_nothing") 2404), (.ref 133)⟩, ⟨PyData.keyHash P (Str.ofString "_law_letter"), (.str (Str.ofString "_law_letter") 2412), (.ref 140)⟩, ⟨PyData.keyHash P (Str.ofString "_law_plain"), (.str (Str.ofString "_law_plain") 2420), (.ref 147)⟩, ⟨PyData.keyHash P (Str.ofString "_law_word"), (.str (Str.ofString "_law_word") 2430), (.ref 154)⟩, ⟨PyData.keyHash P (Str.ofString "_law_prepared"), (.str (Str.ofString "_law_prepared") 2440), (.ref 161)⟩, ⟨PyData.keyHash P (Str.ofString "_law_piece"), (.str (Str.ofString "_law_piece") 2450), (.ref 168)⟩, ⟨PyData.keyHash P (Str.ofString "_law_page"), (.str (Str.ofString "_law_page") 2457), (.ref 175)⟩, ⟨PyData.keyHash P (Str.ofString "law"), (.str (Str.ofString "law") 2463), (.ref 180)⟩]) 28), List.toArray []⟩
noncomputable def o6 (P : Params) : Obj := ⟨(.type "dict"), none, (.dict (List.toArray []) 0), List.toArray []⟩
noncomputable def o11 (P : Params) : Obj := ⟨(.type "dict"), none, (.dict (List.toArray [⟨PyData.keyHash P (Str.ofString "__name__"), (.str (Str.ofString "__name__") 247), (.str (Str.ofString "_sre") 246)⟩, ⟨PyData.keyHash P (Str.ofString "__doc__"), (.str (Str.ofString "__doc__") 248), .none⟩, ⟨PyData.keyHash P (Str.ofString "__package__"), (.str (Str.ofString "__package__") 250), (.str (Str.ofString "") 249)⟩, ⟨PyData.keyHash P (Str.ofString "__loader__"), (.str (Str.ofString "__loader__") 251), (.builtin "off-the-table:_sre.__loader__:shared#opaque")⟩, ⟨PyData.keyHash P (Str.ofString "__spec__"), (.str (Str.ofString "__spec__") 252), (.builtin "off-the-table:_sre.__spec__:shared#opaque")⟩, ⟨PyData.keyHash P (Str.ofString "compile"), (.str (Str.ofString "compile") 253), (.builtin "_sre.compile")⟩, ⟨PyData.keyHash P (Str.ofString "template"), (.str (Str.ofString "template") 254), (.builtin "off-the-table:_sre.template:shared#opaque")⟩, ⟨PyData.keyHash P (Str.ofString "getcodesize"), (.str (Str.ofString "getcodesize") 255), (.builtin "off-the-table:_sre.getcodesize:shared#opaque")⟩, ⟨PyData.keyHash P (Str.ofString "ascii_iscased"), (.str (Str.ofString "ascii_iscased") 256), (.builtin "off-the-table:_sre.ascii_iscased:shared#opaque")⟩, ⟨PyData.keyHash P (Str.ofString "unicode_iscased"), (.str (Str.ofString "unicode_iscased") 257), (.builtin "off-the-table:_sre.unicode_iscased:shared#opaque")⟩, ⟨PyData.keyHash P (Str.ofString "ascii_tolower"), (.str (Str.ofString "ascii_tolower") 258), (.builtin "off-the-table:_sre.ascii_tolower:shared#opaque")⟩, ⟨PyData.keyHash P (Str.ofString "unicode_tolower"), (.str (Str.ofString "unicode_tolower") 259), (.builtin "off-the-table:_sre.unicode_tolower:shared#opaque")⟩, ⟨PyData.keyHash P (Str.ofString "MAGIC"), (.str (Str.ofString "MAGIC") 261), (.int 20230612 260)⟩, ⟨PyData.keyHash P (Str.ofString "CODESIZE"), (.str (Str.ofString "CODESIZE") 263), (.int 4 262)⟩, ⟨PyData.keyHash P (Str.ofString "MAXREPEAT"), (.str (Str.ofString "MAXREPEAT") 265), (.int 4294967295 264)⟩, ⟨PyData.keyHash P (Str.ofString "MAXGROUPS"), (.str (Str.ofString "MAXGROUPS") 267), (.int 1073741823 266)⟩, ⟨PyData.keyHash P (Str.ofString "copyright"), (.str (Str.ofString "copyright") 269), (.str (Str.ofString " SRE 2.2.2 Copyright (c) 1997-2002 by Secret Labs AB ") 268)⟩]) 17), List.toArray []⟩
noncomputable def o12 (P : Params) : Obj := ⟨(.type "module"), (some 11), .plain, List.toArray []⟩
noncomputable def o39 (P : Params) : Obj := ⟨(.type "set"), none, (.set (List.toArray [(65024, (.int 65024 300)), (65025, (.int 65025 301)), (65026, (.int 65026 302)), (65027, (.int 65027 303)), (65028, (.int 65028 304)), (65029, (.int 65029 305)), (6150, (.int 6150 286)), (65030, (.int 65030 306)), (65031, (.int 65031 307)), (65032, (.int 65032 308)), (65033, (.int 65033 309)), (6155, (.int 6155 287)), (6156, (.int 6156 288)), (6157, (.int 6157 289)), (8203, (.int 8203 290)), (8204, (.int 8204 291)), (8205, (.int 8205 292)), (65034, (.int 65034 310)), (65035, (.int 65035 311)), (65036, (.int 65036 312)), (65037, (.int 65037 313)), (65038, (.int 65038 314)), (65039, (.int 65039 315)), (173, (.int 173 284)), (847, (.int 847 285)), (8288, (.int 8288 293)), (65279, (.int 65279 294))]) 29 ⟨127, #[0, 1, 2, 3, 4, 5, 6, 7, 8, 9, 10, 11, 12, 13, 14, 15, 16, 17, 18, 19, 20, 21, 22, 45, 79, 96, 127], #[], 0, (!P.followText "set-order"), 2, true⟩), List.toArray []⟩
noncomputable def o43 (P : Params) : Obj := ⟨(.type "tuple"), none, (.seq (List.toArray []) 0), List.toArray []⟩
noncomputable def o45 (P : Params) : Obj := ⟨(.type "tuple"), none, (.seq (List.toArray [(.str (Str.ofString "code") 347)]) 0), List.toArray []⟩
noncomputable def o46 (P : Params) : Obj := ⟨(.type "tuple"), none, (.seq (List.toArray []) 0), List.toArray []⟩
noncomputable def o48 (P : Params) : Obj := ⟨(.type "code"), none, (.fields (List.toArray [(.str (Str.ofString "in_table_b1") 344), (.str (Str.ofString "in_table_b1") 345), (.str (Str.ofString "/claim/cut.py") 346), (.int 4 0), (.int 1 0), (.int 0 0), (.int 0 0), (.int 3 0), (.ref 43), (.bool true), (.int 276 0), (.ref 44), .none, (.ref 45), (.ref 46), (.ref 47), (.int 348 0), (.int 4 0), (.str (Str.ofString "/claim/cut.py") 349)])), List.toArray []⟩
noncomputable def o49 (P : Params) : Obj := ⟨(.type "function"), none, (.func (fnOf (Str.ofString "in_table_b1") (Str.ofString "in_table_b1") ar2 bd2 sc2 .none .none .none (.str (Str.ofString "cpy313.stringprep") 282) none (.ref 48) .none)), List.toArray []⟩
noncomputable def kInt : Option PySem.Expr → Int
  | some (.Constant (.int i) _ _) => i
  | _ => 0
noncomputable def vStr : PySem.Expr → Str
  | .Constant (.str x) _ _ => x
  | _ => Str.empty
noncomputable def b3pairs : List (Int × Str) := match cell 3 with
  | .Assign _ (.Dict ks vs _) _ => (ks.map kInt).zip (vs.map vStr)
  | _ => []
noncomputable def b3Ent (d : Nat) : Nat → List (Int × Str) → List DictEntry
  | _, [] => []
  | t, x :: r => ⟨x.1, .int x.1 t, .str x.2 (t + 1)⟩ :: b3Ent d (t + d) r
noncomputable def b3Entries : List DictEntry := b3Ent 3 351 (b3pairs.take 646) ++ b3Ent 2 2289 (b3pairs.drop 646)
noncomputable def o50 (P : Params) : Obj := ⟨(.type "dict"), none, (.dict (List.toArray b3Entries) 650), List.toArray []⟩
noncomputable def o89 (P : Params) : Obj := ⟨(.type "tuple"), none, (.seq (List.toArray []) 0), List.toArray []⟩
noncomputable def o91 (P : Params) : Obj := ⟨(.type "tuple"), none, (.seq (List.toArray [(.str (Str.ofString "code") 2305), (.str (Str.ofString "r") 2306)]) 0), List.toArray []⟩
noncomputable def o92 (P : Params) : Obj := ⟨(.type "tuple"), none, (.seq (List.toArray []) 0), List.toArray []⟩
noncomputable def o94 (P : Params) : Obj := ⟨(.type "code"), none, (.fields (List.toArray [(.str (Str.ofString "map_table_b3") 2302), (.str (Str.ofString "map_table_b3") 2303), (.str (Str.ofString "/claim/cut.py") 2304), (.int 7 0), (.int 1 0), (.int 0 0), (.int 0 0), (.int 3 0), (.ref 89), (.bool true), (.int 276 0), (.ref 90), .none, (.ref 91), (.ref 92), (.ref 93), (.int 2307 0), (.int 7 0), (.str (Str.ofString "/claim/cut.py") 2308)])), List.toArray []⟩
noncomputable def o95 (P : Params) : Obj := ⟨(.type "function"), none, (.func (fnOf (Str.ofString "map_table_b3") (Str.ofString "map_table_b3") ar4 bd4 sc4 .none .none .none (.str (Str.ofString "cpy313.stringprep") 282) none (.ref 94) .none)), List.toArray []⟩
noncomputable def o99 (P : Params) : Obj := ⟨(.type "tuple"), none, (.seq (List.toArray [(.int 14 0), (.int 4 0), (.int 0 0), (.int 1 0), (.int 1 0), (.int 6 0), (.int 1 0), (.int 16 0), (.int 46 0), (.int 1 0)]) 0), List.toArray []⟩
noncomputable def o100 (P : Params) : Obj := ⟨(.type "re.Pattern"), none, (.fields (List.toArray [(.str (Str.ofString "(?m)^\\.") 2313), (.int 40 2326), (.int 0 0), .none, .none, (.ref 99), (.int 0 0)])), List.toArray []⟩
noncomputable def o104 (P : Params) : Obj := ⟨(.type "tuple"), none, (.seq (List.toArray [(.int 14 0), (.int 9 0), (.int 4 0), (.int 1 0), (.int 2 0), (.int 16 0), (.int 10 0), (.int 16 0), (.int 13 0), (.int 0 0), (.int 7 0), (.int 7 0), (.int 16 0), (.int 13 0), (.int 16 0), (.int 10 0), (.int 15 0), (.int 18 0), (.int 5 0), (.int 16 0), (.int 10 0), (.int 15 0), (.int 13 0), (.int 11 0), (.int 16 0), (.int 13 0), (.int 5 0), (.int 5 0), (.int 0 0), (.int 16 0), (.int 10 0), (.int 1 0), (.int 15 0), (.int 2 0), (.int 0 0), (.int 1 0)]) 0), List.toArray []⟩
noncomputable def o105 (P : Params) : Obj := ⟨(.type "re.Pattern"), none, (.fields (List.toArray [(.str (Str.ofString "(?:\\r\\n|\\n|\\r(?!\\n))") 2329), (.int 32 2368), (.int 0 0), .none, .none, (.ref 104), (.int 0 0)])), List.toArray []⟩
noncomputable def o106 (P : Params) : Obj := ⟨(.type "tuple"), none, (.seq (List.toArray []) 0), List.toArray []⟩
noncomputable def o108 (P : Params) : Obj := ⟨(.type "tuple"), none, (.seq (List.toArray [(.str (Str.ofString "data") 2375)]) 0), List.toArray []⟩
noncomputable def o109 (P : Params) : Obj := ⟨(.type "tuple"), none, (.seq (List.toArray []) 0), List.toArray []⟩
noncomputable def o111 (P : Params) : Obj := ⟨(.type "code"), none, (.fields (List.toArray [(.str (Str.ofString "quotedata") 2372), (.str (Str.ofString "quotedata") 2373), (.str (Str.ofString "/claim/cut.py") 2374), (.int 16 0), (.int 1 0), (.int 0 0), (.int 0 0), (.int 3 0), (.ref 106), (.bool true), (.int 276 0), (.ref 107), .none, (.ref 108), (.ref 109), (.ref 110), (.int 2376 0), (.int 16 0), (.str (Str.ofString "/claim/cut.py") 2377)])), List.toArray []⟩
noncomputable def o112 (P : Params) : Obj := ⟨(.type "function"), none, (.func (fnOf (Str.ofString "quotedata") (Str.ofString "quotedata") ar9 bd9 sc9 .none .none .none (.str (Str.ofString "cpy313.smtplib") 2310) none (.ref 111) .none)), List.toArray []⟩
noncomputable def o113 (P : Params) : Obj := ⟨(.type "tuple"), none, (.seq (List.toArray []) 0), List.toArray []⟩
noncomputable def o115 (P : Params) : Obj := ⟨(.type "tuple"), none, (.seq (List.toArray [(.str (Str.ofString "text") 2384)]) 0), List.toArray []⟩
noncomputable def o116 (P : Params) : Obj := ⟨(.type "tuple"), none, (.seq (List.toArray []) 0), List.toArray []⟩
noncomputable def o118 (P : Params) : Obj := ⟨(.type "code"), none, (.fields (List.toArray [(.str (Str.ofString "_raise_serialization_error") 2381), (.str (Str.ofString "_raise_serialization_error") 2382), (.str (Str.ofString "/claim/cut.py") 2383), (.int 19 0), (.int 1 0), (.int 0 0), (.int 0 0), (.int 3 0), (.ref 113), (.bool true), (.int 276 0), (.ref 114), .none, (.ref 115), (.ref 116), (.ref 117), (.int 2385 0), (.int 19 0), (.str (Str.ofString "/claim/cut.py") 2386)])), List.toArray []⟩
noncomputable def o119 (P : Params) : Obj := ⟨(.type "function"), none, (.func (fnOf (Str.ofString "_raise_serialization_error") (Str.ofString "_raise_serialization_error") ar11 bd11 sc11 .none .none .none (.str (Str.ofString "cpy313.xml.etree.ElementTree") 2379) none (.ref 118) .none)), List.toArray []⟩
noncomputable def o120 (P : Params) : Obj := ⟨(.type "tuple"), none, (.seq (List.toArray []) 0), List.toArray []⟩
noncomputable def o122 (P : Params) : Obj := ⟨(.type "tuple"), none, (.seq (List.toArray [(.str (Str.ofString "text") 2391)]) 0), List.toArray []⟩
noncomputable def o123 (P : Params) : Obj := ⟨(.type "tuple"), none, (.seq (List.toArray []) 0), List.toArray []⟩
noncomputable def o125 (P : Params) : Obj := ⟨(.type "code"), none, (.fields (List.toArray [(.str (Str.ofString "_escape_cdata") 2388), (.str (Str.ofString "_escape_cdata") 2389), (.str (Str.ofString "/claim/cut.py") 2390), (.int 21 0), (.int 1 0), (.int 0 0), (.int 0 0), (.int 3 0), (.ref 120), (.bool true), (.int 276 0), (.ref 121), .none, (.ref 122), (.ref 123), (.ref 124), (.int 2392 0), (.int 21 0), (.str (Str.ofString "/claim/cut.py") 2393)])), List.toArray []⟩
noncomputable def o126 (P : Params) : Obj := ⟨(.type "function"), none, (.func (fnOf (Str.ofString "_escape_cdata") (Str.ofString "_escape_cdata") ar12 bd12 sc12 .none .none .none (.str (Str.ofString "cpy313.xml.etree.ElementTree") 2379) none (.ref 125) .none)), List.toArray []⟩
noncomputable def o127 (P : Params) : Obj := ⟨(.type "tuple"), none, (.seq (List.toArray []) 0), List.toArray []⟩
noncomputable def o129 (P : Params) : Obj := ⟨(.type "tuple"), none, (.seq (List.toArray [(.str (Str.ofString "n") 2400), (.str (Str.ofString "codes") 2401)]) 0), List.toArray []⟩
noncomputable def o130 (P : Params) : Obj := ⟨(.type "tuple"), none, (.seq (List.toArray []) 0), List.toArray []⟩
noncomputable def o132 (P : Params) : Obj := ⟨(.type "code"), none, (.fields (List.toArray [(.str (Str.ofString "_law_nothing") 2397), (.str (Str.ofString "_law_nothing") 2398), (.str (Str.ofString "/claim/cut.py") 2399), (.int 33 0), (.int 1 0), (.int 0 0), (.int 0 0), (.int 3 0), (.ref 127), (.bool true), (.int 276 0), (.ref 128), .none, (.ref 129), (.ref 130), (.ref 131), (.int 2402 0), (.int 33 0), (.str (Str.ofString "/claim/cut.py") 2403)])), List.toArray []⟩
noncomputable def o133 (P : Params) : Obj := ⟨(.type "function"), none, (.func (fnOf (Str.ofString "_law_nothing") (Str.ofString "_law_nothing") ar14 bd14 sc14 .none .none .none (.str (Str.ofString "law_st0017_01") 2395) none (.ref 132) .none)), List.toArray []⟩
noncomputable def o134 (P : Params) : Obj := ⟨(.type "tuple"), none, (.seq (List.toArray []) 0), List.toArray []⟩
noncomputable def o136 (P : Params) : Obj := ⟨(.type "tuple"), none, (.seq (List.toArray [(.str (Str.ofString "n") 2408), (.str (Str.ofString "starts") 2409)]) 0), List.toArray []⟩
noncomputable def o137 (P : Params) : Obj := ⟨(.type "tuple"), none, (.seq (List.toArray []) 0), List.toArray []⟩
noncomputable def o139 (P : Params) : Obj := ⟨(.type "code"), none, (.fields (List.toArray [(.str (Str.ofString "_law_letter") 2405), (.str (Str.ofString "_law_letter") 2406), (.str (Str.ofString "/claim/cut.py") 2407), (.int 36 0), (.int 1 0), (.int 0 0), (.int 0 0), (.int 3 0), (.ref 134), (.bool true), (.int 276 0), (.ref 135), .none, (.ref 136), (.ref 137), (.ref 138), (.int 2410 0), (.int 36 0), (.str (Str.ofString "/claim/cut.py") 2411)])), List.toArray []⟩
noncomputable def o140 (P : Params) : Obj := ⟨(.type "function"), none, (.func (fnOf (Str.ofString "_law_letter") (Str.ofString "_law_letter") ar15 bd15 sc15 .none .none .none (.str (Str.ofString "law_st0017_01") 2395) none (.ref 139) .none)), List.toArray []⟩
noncomputable def o141 (P : Params) : Obj := ⟨(.type "tuple"), none, (.seq (List.toArray []) 0), List.toArray []⟩
noncomputable def o143 (P : Params) : Obj := ⟨(.type "tuple"), none, (.seq (List.toArray [(.str (Str.ofString "n") 2416), (.str (Str.ofString "codes") 2417)]) 0), List.toArray []⟩
noncomputable def o144 (P : Params) : Obj := ⟨(.type "tuple"), none, (.seq (List.toArray []) 0), List.toArray []⟩
noncomputable def o146 (P : Params) : Obj := ⟨(.type "code"), none, (.fields (List.toArray [(.str (Str.ofString "_law_plain") 2413), (.str (Str.ofString "_law_plain") 2414), (.str (Str.ofString "/claim/cut.py") 2415), (.int 39 0), (.int 1 0), (.int 0 0), (.int 0 0), (.int 3 0), (.ref 141), (.bool true), (.int 276 0), (.ref 142), .none, (.ref 143), (.ref 144), (.ref 145), (.int 2418 0), (.int 39 0), (.str (Str.ofString "/claim/cut.py") 2419)])), List.toArray []⟩
noncomputable def o147 (P : Params) : Obj := ⟨(.type "function"), none, (.func (fnOf (Str.ofString "_law_plain") (Str.ofString "_law_plain") ar16 bd16 sc16 .none .none .none (.str (Str.ofString "law_st0017_01") 2395) none (.ref 146) .none)), List.toArray []⟩
noncomputable def o148 (P : Params) : Obj := ⟨(.type "tuple"), none, (.seq (List.toArray []) 0), List.toArray []⟩
noncomputable def o150 (P : Params) : Obj := ⟨(.type "tuple"), none, (.seq (List.toArray [(.str (Str.ofString "n") 2424), (.str (Str.ofString "words") 2425), (.str (Str.ofString "code") 2426), (.str (Str.ofString "word") 2427)]) 0), List.toArray []⟩
noncomputable def o151 (P : Params) : Obj := ⟨(.type "tuple"), none, (.seq (List.toArray []) 0), List.toArray []⟩
noncomputable def o153 (P : Params) : Obj := ⟨(.type "code"), none, (.fields (List.toArray [(.str (Str.ofString "_law_word") 2421), (.str (Str.ofString "_law_word") 2422), (.str (Str.ofString "/claim/cut.py") 2423), (.int 43 0), (.int 1 0), (.int 0 0), (.int 0 0), (.int 3 0), (.ref 148), (.bool true), (.int 276 0), (.ref 149), .none, (.ref 150), (.ref 151), (.ref 152), (.int 2428 0), (.int 43 0), (.str (Str.ofString "/claim/cut.py") 2429)])), List.toArray []⟩
noncomputable def o154 (P : Params) : Obj := ⟨(.type "function"), none, (.func (fnOf (Str.ofString "_law_word") (Str.ofString "_law_word") ar17 bd17 sc17 .none .none .none (.str (Str.ofString "law_st0017_01") 2395) none (.ref 153) .none)), List.toArray []⟩
noncomputable def o155 (P : Params) : Obj := ⟨(.type "tuple"), none, (.seq (List.toArray []) 0), List.toArray []⟩
noncomputable def o157 (P : Params) : Obj := ⟨(.type "tuple"), none, (.seq (List.toArray [(.str (Str.ofString "text") 2434), (.str (Str.ofString "kept") 2435), (.str (Str.ofString "sign") 2436), (.str (Str.ofString "told") 2437)]) 0), List.toArray []⟩
noncomputable def o158 (P : Params) : Obj := ⟨(.type "tuple"), none, (.seq (List.toArray []) 0), List.toArray []⟩
noncomputable def o160 (P : Params) : Obj := ⟨(.type "code"), none, (.fields (List.toArray [(.str (Str.ofString "_law_prepared") 2431), (.str (Str.ofString "_law_prepared") 2432), (.str (Str.ofString "/claim/cut.py") 2433), (.int 49 0), (.int 1 0), (.int 0 0), (.int 0 0), (.int 3 0), (.ref 155), (.bool true), (.int 276 0), (.ref 156), .none, (.ref 157), (.ref 158), (.ref 159), (.int 2438 0), (.int 49 0), (.str (Str.ofString "/claim/cut.py") 2439)])), List.toArray []⟩
noncomputable def o161 (P : Params) : Obj := ⟨(.type "function"), none, (.func (fnOf (Str.ofString "_law_prepared") (Str.ofString "_law_prepared") ar18 bd18 sc18 .none .none .none (.str (Str.ofString "law_st0017_01") 2395) none (.ref 160) .none)), List.toArray []⟩
noncomputable def o162 (P : Params) : Obj := ⟨(.type "tuple"), none, (.seq (List.toArray []) 0), List.toArray []⟩
noncomputable def o164 (P : Params) : Obj := ⟨(.type "tuple"), none, (.seq (List.toArray [(.str (Str.ofString "n") 2444), (.str (Str.ofString "kind") 2445), (.str (Str.ofString "rest") 2446), (.str (Str.ofString "end") 2447)]) 0), List.toArray []⟩
noncomputable def o165 (P : Params) : Obj := ⟨(.type "tuple"), none, (.seq (List.toArray []) 0), List.toArray []⟩
noncomputable def o167 (P : Params) : Obj := ⟨(.type "code"), none, (.fields (List.toArray [(.str (Str.ofString "_law_piece") 2441), (.str (Str.ofString "_law_piece") 2442), (.str (Str.ofString "/claim/cut.py") 2443), (.int 58 0), (.int 1 0), (.int 0 0), (.int 0 0), (.int 3 0), (.ref 162), (.bool true), (.int 276 0), (.ref 163), .none, (.ref 164), (.ref 165), (.ref 166), (.int 2448 0), (.int 58 0), (.str (Str.ofString "/claim/cut.py") 2449)])), List.toArray []⟩
noncomputable def o168 (P : Params) : Obj := ⟨(.type "function"), none, (.func (fnOf (Str.ofString "_law_piece") (Str.ofString "_law_piece") ar19 bd19 sc19 .none .none .none (.str (Str.ofString "law_st0017_01") 2395) none (.ref 167) .none)), List.toArray []⟩
noncomputable def o169 (P : Params) : Obj := ⟨(.type "tuple"), none, (.seq (List.toArray []) 0), List.toArray []⟩
noncomputable def o171 (P : Params) : Obj := ⟨(.type "tuple"), none, (.seq (List.toArray [(.str (Str.ofString "text") 2454)]) 0), List.toArray []⟩
noncomputable def o172 (P : Params) : Obj := ⟨(.type "tuple"), none, (.seq (List.toArray []) 0), List.toArray []⟩
noncomputable def o174 (P : Params) : Obj := ⟨(.type "code"), none, (.fields (List.toArray [(.str (Str.ofString "_law_page") 2451), (.str (Str.ofString "_law_page") 2452), (.str (Str.ofString "/claim/cut.py") 2453), (.int 74 0), (.int 1 0), (.int 0 0), (.int 0 0), (.int 3 0), (.ref 169), (.bool true), (.int 276 0), (.ref 170), .none, (.ref 171), (.ref 172), (.ref 173), (.int 2455 0), (.int 74 0), (.str (Str.ofString "/claim/cut.py") 2456)])), List.toArray []⟩
noncomputable def o175 (P : Params) : Obj := ⟨(.type "function"), none, (.func (fnOf (Str.ofString "_law_page") (Str.ofString "_law_page") ar20 bd20 sc20 .none .none .none (.str (Str.ofString "law_st0017_01") 2395) none (.ref 174) .none)), List.toArray []⟩
noncomputable def o176 (P : Params) : Obj := ⟨(.type "tuple"), none, (.seq (List.toArray []) 0), List.toArray []⟩
noncomputable def o179 (P : Params) : Obj := ⟨(.type "code"), none, (.fields (List.toArray [(.str (Str.ofString "law") 2458), (.str (Str.ofString "law") 2459), (.str (Str.ofString "/claim/cut.py") 2460), (.int 76 0), (.int 1 0), (.int 0 0), (.int 0 0), (.int 3 0), (.ref 176), (.bool true), (.int 276 0), (.ref 177), .none, .none, .none, (.ref 178), (.int 2461 0), (.int 76 0), (.str (Str.ofString "/claim/cut.py") 2462)])), List.toArray []⟩
noncomputable def o180 (P : Params) : Obj := ⟨(.type "function"), none, (.func (fnOf (Str.ofString "law") (Str.ofString "law") ar21 bd21 sc21 .none .none .none (.str (Str.ofString "law_st0017_01") 2395) none (.ref 179) .none)), List.toArray []⟩
noncomputable def K : Params → Frag := fun P => (nat_lit 2, o2 P) :: (nat_lit 3, o3 P) :: (nat_lit 6, o6 P) :: (nat_lit 11, o11 P) :: (nat_lit 12, o12 P) :: (nat_lit 39, o39 P) :: (nat_lit 43, o43 P) :: (nat_lit 45, o45 P) :: (nat_lit 46, o46 P) :: (nat_lit 48, o48 P) :: (nat_lit 49, o49 P) :: (nat_lit 50, o50 P) :: (nat_lit 89, o89 P) :: (nat_lit 91, o91 P) :: (nat_lit 92, o92 P) :: (nat_lit 94, o94 P) :: (nat_lit 95, o95 P) :: (nat_lit 99, o99 P) :: (nat_lit 100, o100 P) :: (nat_lit 104, o104 P) :: (nat_lit 105, o105 P) :: (nat_lit 106, o106 P) :: (nat_lit 108, o108 P) :: (nat_lit 109, o109 P) :: (nat_lit 111, o111 P) :: (nat_lit 112, o112 P) :: (nat_lit 113, o113 P) :: (nat_lit 115, o115 P) :: (nat_lit 116, o116 P) :: (nat_lit 118, o118 P) :: (nat_lit 119, o119 P) :: (nat_lit 120, o120 P) :: (nat_lit 122, o122 P) :: (nat_lit 123, o123 P) :: (nat_lit 125, o125 P) :: (nat_lit 126, o126 P) :: (nat_lit 127, o127 P) :: (nat_lit 129, o129 P) :: (nat_lit 130, o130 P) :: (nat_lit 132, o132 P) :: (nat_lit 133, o133 P) :: (nat_lit 134, o134 P) :: (nat_lit 136, o136 P) :: (nat_lit 137, o137 P) :: (nat_lit 139, o139 P) :: (nat_lit 140, o140 P) :: (nat_lit 141, o141 P) :: (nat_lit 143, o143 P) :: (nat_lit 144, o144 P) :: (nat_lit 146, o146 P) :: (nat_lit 147, o147 P) :: (nat_lit 148, o148 P) :: (nat_lit 150, o150 P) :: (nat_lit 151, o151 P) :: (nat_lit 153, o153 P) :: (nat_lit 154, o154 P) :: (nat_lit 155, o155 P) :: (nat_lit 157, o157 P) :: (nat_lit 158, o158 P) :: (nat_lit 160, o160 P) :: (nat_lit 161, o161 P) :: (nat_lit 162, o162 P) :: (nat_lit 164, o164 P) :: (nat_lit 165, o165 P) :: (nat_lit 167, o167 P) :: (nat_lit 168, o168 P) :: (nat_lit 169, o169 P) :: (nat_lit 171, o171 P) :: (nat_lit 172, o172 P) :: (nat_lit 174, o174 P) :: (nat_lit 175, o175 P) :: (nat_lit 176, o176 P) :: (nat_lit 179, o179 P) :: (nat_lit 180, o180 P) :: []
noncomputable def Kas : List Addr := [2, 3, 6, 11, 12, 39, 43, 45, 46, 48, 49, 50, 89, 91, 92, 94, 95, 99, 100, 104, 105, 106, 108, 109, 111, 112, 113, 115, 116, 118, 119, 120, 122, 123, 125, 126, 127, 129, 130, 132, 133, 134, 136, 137, 139, 140, 141, 143, 144, 146, 147, 148, 150, 151, 153, 154, 155, 157, 158, 160, 161, 162, 164, 165, 167, 168, 169, 171, 172, 174, 175, 176, 179, 180]
theorem Kas_eq : ∀ P, Kas = (K P).map (·.1) := fun _ => by kernel_rfl
end Mine
end
/-! part Fw1 -/
section
set_option maxRecDepth 100000
set_option linter.unusedVariables false
open PySem
namespace Mine
open PyProof.Rows PySem.Calls

noncomputable def Grow (h h' : Heap) : Prop := ∀ b o, h.get? b = some o → h'.get? b = some o
theorem Grow.refl {h : Heap} : Grow h h := fun _ _ e => e
theorem Grow.trans {h h' h'' : Heap} (x : Grow h h') (y : Grow h' h'') : Grow h h'' := fun b o e => y b o (x b o e)

/-- a tree from a heap: it ends, without an exception, and only the heap and the count of tokens may turn -/
structure hw {α : Type} (M : Model) (A : Around) (t : Sem α) (P : α → Heap → Prop) (h : Heap) : Prop where
  go : ∀ g d k o, wpAny M A t (fun a s' => ∃ h' k', s' = ⟨h', g, d, k', o⟩ ∧ P a h') (fun _ _ => False) ⟨h, g, d, k, o⟩

section
variable {α β : Type} {M : Model} {A : Around} {h : Heap}
theorem hw.use {t : Sem α} {P : α → Heap → Prop} {Q : α → Shared → Prop} {E : Value → Shared → Prop} {s : Shared} (x : hw M A t P s.heap) (k : ∀ a h' tk, P a h' → Q a { s with heap := h', toks := tk }) : wpAny M A t Q E s := by
  obtain ⟨h, g, d, tk, o⟩ := s
  refine wpAny_mono (x.go g d tk o) (fun a s' q => ?_) (fun _ _ q => q.elim)
  obtain ⟨h', k', rfl, q⟩ := q
  exact k a h' k' q
theorem hw.of {t : Sem α} {P : α → Heap → Prop} (x : ∀ (s : Shared), s.heap = h → wpAny M A t (fun a s' => ∃ h' k', s' = { s with heap := h', toks := k' } ∧ P a h') (fun _ _ => False) s) : hw M A t P h := hw.mk fun g d k o => x ⟨h, g, d, k, o⟩ rfl
theorem hw_pure {a : α} {P : α → Heap → Prop} (x : P a h) : hw M A (pure a) P h := hw.mk fun g d k o => wpAny_pure ⟨h, k, rfl, x⟩
theorem hw_mono {t : Sem α} {P P' : α → Heap → Prop} (x : hw M A t P h) (k : ∀ a h', P a h' → P' a h') : hw M A t P' h := hw.mk fun g d tk o =>
  wpAny_mono (x.go g d tk o) (fun a s' q => by obtain ⟨h', k', e, q⟩ := q; exact ⟨h', k', e, k _ _ q⟩) fun _ _ q => q
theorem hw_bind {t : Sem α} {f : α → Sem β} {P : β → Heap → Prop} (x : hw M A t (fun a h' => hw M A (f a) P h') h) : hw M A (t >>= f) P h := hw.mk fun g d k o =>
  wpAny_bind (wpAny_mono (x.go g d k o) (fun a s' q => by obtain ⟨h', k', rfl, q⟩ := q; exact q.go g d k' o) fun _ _ q => q)
theorem hw_eq {t t' : Sem α} {P : α → Heap → Prop} (e : t = t') (x : hw M A t' P h) : hw M A t P h := e ▸ x

/-- a call's code -/
structure hc (M : Model) (A : Around) (c : Code) (P : Value → Heap → Prop) (h : Heap) : Prop where
  go : ∀ g d k o, codeAny M A c (fun r s' => ∃ v h' k', r = .ok (.ret v) ∧ s' = ⟨h', g, d, k', o⟩ ∧ P v h') ⟨h, g, d, k, o⟩
theorem hc.call {f : Value} {pos : List Value} {P : Value → Heap → Prop} (x : hc M A (.call f ⟨pos, []⟩) P h) : hw M A (call f pos) P h := hw.mk fun g d k o =>
  wpAny_call (codeAny_mono (x.go g d k o) fun r s' q => by obtain ⟨v, h', k', rfl, e, q⟩ := q; exact ⟨h', k', e, q⟩)
theorem hc_mono {c : Code} {P P' : Value → Heap → Prop} (x : hc M A c P h) (k : ∀ v h', P v h' → P' v h') : hc M A c P' h := hc.mk fun g d tk o =>
  codeAny_mono (x.go g d tk o) fun r s' q => by obtain ⟨v, h', k', e1, e2, q⟩ := q; exact ⟨v, h', k', e1, e2, k _ _ q⟩
end

/-! names -/
theorem char_inj {a b : Char} (h : a.toNat = b.toNat) : a = b := by
  have : a.val.toNat = b.val.toNat := h
  exact Char.ext (UInt32.toNat_inj.mp this)
theorem ofString_inj (a b : String) : (Str.ofString a = Str.ofString b) = (a = b) := by
  apply propext
  constructor
  · intro h
    rw [Str.ofString_eq_toList, Str.ofString_eq_toList] at h
    have h' : (a.toList.map Char.toNat) = (b.toList.map Char.toNat) := by
      have := congrArg (fun s : Str => s.cps.toList) h
      simpa using this
    exact String.toList_inj.mp (List.map_inj_right (fun x y q => char_inj q) |>.mp h')
  · rintro rfl; rfl

/-- what is known of the heap besides the frame; the frame's names -/
structure Fm (S : Addr → Obj → Prop) (L : Addr) (m : Str → Option Value) (h : Heap) : Prop where
  ns : h.Ns L m
  keep : ∀ b o, S b o → h.get? b = some o
  off : ∀ o, ¬ S L o
noncomputable def upd (m : Str → Option Value) (x : Str) (v : Value) : Str → Option Value := fun y => if y = x then some v else m y
noncomputable def and1 (S : Addr → Obj → Prop) (a : Addr) (o : Obj) : Addr → Obj → Prop := fun b o' => S b o' ∨ (b = a ∧ o' = o)
section
variable {S : Addr → Obj → Prop} {L : Addr} {m : Str → Option Value} {h h' : Heap}
theorem Fm.grow (F : Fm S L m h) (g : Grow h h') : Fm S L m h' := ⟨F.ns.keeps g, fun b o x => g _ _ (F.keep b o x), F.off⟩
theorem Fm.learn (F : Fm S L m h) {a : Addr} {o : Obj} (ha : h.get? a = some o) (hn : a ≠ L) : Fm (and1 S a o) L m h :=
  ⟨F.ns, fun b o' x => by rcases x with x | ⟨rfl, rfl⟩; exact F.keep _ _ x; exact ha, fun o' x => by rcases x with x | ⟨e, _⟩; exact F.off _ x; exact hn e.symm⟩
theorem Fm.there (F : Fm S L m h) : ∃ o, h.get? L = some o := let ⟨o, _, _, e, _⟩ := F.ns; ⟨o, e⟩
theorem Fm.new (F : Fm S L m h) {a : Addr} (ha : h.get? a = none) : a ≠ L := by
  rintro rfl
  obtain ⟨o, e⟩ := F.there
  rw [ha] at e; cases e
theorem Fm.store (F : Fm S L m h) {x : Str} {v : Value} (hn : h'.Ns L (upd m x v)) (hs : Heap.SameBut L h h') : Fm S L (upd m x v) h' :=
  ⟨hn, fun b o q => (hs.2 b (fun e => F.off o (e ▸ q))).trans (F.keep b o q), F.off⟩
end

section
variable {M : Model} {A : Around} {env : Env} {h : Heap} {name : Str} {scope : Scope} {L a : Addr} {cd : Value} {S : Addr → Obj → Prop} {m : Str → Option Value}
/-! statements -/
theorem h_nil {P : Flow → Heap → Prop} (x : P .next h) : hw M A (execs [] env) P h := hw_pure x
theorem h_cons {st : Stmt} {rest : List Stmt} {P : Flow → Heap → Prop} (x : hw M A (exec st env) (fun f h' => match f with | .next => hw M A (execs rest env) P h' | f => P f h') h) : hw M A (execs (st :: rest) env) P h := hw.mk fun g d k o =>
  wpAny_execs_cons (wpAny_mono (x.go g d k o) (fun f s' q => by
    obtain ⟨h', k', rfl, q⟩ := q
    cases f with
    | next => exact q.go g d k' o
    | brk => exact ⟨_, _, rfl, q⟩
    | cont => exact ⟨_, _, rfl, q⟩
    | ret v => exact ⟨_, _, rfl, q⟩) fun _ _ q => q)
theorem h_ret {e : Expr} {pos : Pos} {P : Flow → Heap → Prop} (x : hw M A (eval e env) (fun v => P (.ret v)) h) : hw M A (exec (.Return (some e) pos) env) P h := hw.mk fun g d k o =>
  wpAny_Return_some (x.go g d k o)
theorem h_if {test : Expr} {body orelse : List Stmt} {pos : Pos} {P : Flow → Heap → Prop} (x : hw M A (isTrue test env (eval test env)) (fun b h' => hw M A (execs (if b then body else orelse) env) P h') h) : hw M A (exec (.If test body orelse pos) env) P h := hw.mk fun g d k o =>
  wpAny_If (wpAny_mono (x.go g d k o) (fun b s' q => by obtain ⟨h', k', rfl, q⟩ := q; cases b <;> exact q.go g d k' o) fun _ _ q => q)
theorem h_store {x : Str} {v : Value} {P : Unit → Heap → Prop} (F : Fm S L m h) (hl : scope.names.lookup x = some .local) (hk : scope.kind = .function) (k : ∀ h', Fm S L (upd m x v) h' → P () h') : hw M A (storeName (envOf name scope L a cd) x v) P h := by
  refine hw.of fun s hs => ?_
  subst hs
  refine wpAny_storeName_local (env := envOf name scope L a cd) hl F.ns (fun h' hn hs => ⟨h', _, rfl, k h' (F.store hn hs)⟩) ?_
  show (scope.kind == .class || (scope.kind == .module && L != mainGlobals)) = false
  rw [hk]; rfl
theorem h_assign {x : Str} {p pos : Pos} {e : Expr} {P : Flow → Heap → Prop} (hl : scope.names.lookup x = some .local) (hk : scope.kind = .function)
    (k : hw M A (eval e (envOf name scope L a cd)) (fun v h' => ∃ S' m', Fm S' L m' h' ∧ ∀ h'', Fm S' L (upd m' x v) h'' → P .next h'') h) (hs : swapsWith e (some (.Name x p)) pos.line (envOf name scope L a cd) = pure false := by rfl) :
    hw M A (exec (.Assign [.Name x p] e pos) (envOf name scope L a cd)) P h := hw.mk fun g d tk o =>
  wpAny_Assign_Name (wpAny_mono (k.go g d tk o) (fun v s' q => by
    obtain ⟨h', k', rfl, S', m', F, q⟩ := q
    exact (h_store F hl hk (P := fun _ => P .next) (fun h'' F' => q h'' F')).go g d k' o) fun _ _ q => q) hs

/-! expressions -/
theorem h_int {i : Int} {k : Nat} {pos : Pos} {P : Value → Heap → Prop} (x : ∀ t, P (.int i t) h) : hw M A (eval (.Constant (.int i) k pos) env) P h := hw.mk fun g d tk o => wpAny_Constant_int ⟨_, _, rfl, x _⟩
theorem h_str {i : Str} {k : Nat} {pos : Pos} {P : Value → Heap → Prop} (x : ∀ t, P (.str i t) h) : hw M A (eval (.Constant (.str i) k pos) env) P h := hw.mk fun g d tk o => by
  show wpAny M A (fresh >>= fun t => pure (Value.str i t)) _ _ _
  exact wpAny_bind (wpAny_fresh (wpAny_pure ⟨_, _, rfl, x _⟩))
theorem h_bool {b : Bool} {k : Nat} {pos : Pos} {P : Value → Heap → Prop} (x : P (.bool b) h) : hw M A (eval (.Constant (.bool b) k pos) env) P h := hw_pure x
theorem h_none {k : Nat} {pos : Pos} {P : Value → Heap → Prop} (x : P .none h) : hw M A (eval (.Constant .none k pos) env) P h := hw_pure x
theorem h_local {x : Str} {pos : Pos} {v : Value} {P : Value → Heap → Prop} (F : Fm S L m h) (hl : scope.names.lookup x = some .local) (hk : scope.kind = .function) (hv : m x = some v) (k : P v h) (hd : (x == ("__debug__" : Str)) = false := by decide) : hw M A (eval (.Name x pos) (envOf name scope L a cd)) P h := by
  refine hw.of fun s hs => ?_
  subst hs
  exact wpAny_Name (wpAny_loadName_local hk hl F.ns hv ⟨_, _, rfl, k⟩) hd
theorem upd_eq {m : Str → Option Value} {x : Str} {v : Value} : upd m x v x = some v := if_pos rfl
theorem upd_ne {m : Str → Option Value} {a b : String} {v u : Value} (h : a ≠ b) (e : m (Str.ofString a) = some v) : upd m (Str.ofString b) u (Str.ofString a) = some v := (if_neg (by rw [ofString_inj]; exact h)).trans e
theorem h_loc {x : Str} {pos : Pos} {v : Value} {P : Value → Heap → Prop} (F : Fm S L m h) (hl : scope.names.lookup x = some .local) (hk : scope.kind = .function) (k : P v h) (hv : m x = some v := by repeat first | exact upd_eq | refine upd_ne (by decide) ?_) (hd : (x == ("__debug__" : Str)) = false := by decide) : hw M A (eval (.Name x pos) (envOf name scope L a cd)) P h := h_local F hl hk hv k hd
theorem h_global {x : Str} {pos : Pos} {v : Value} {mg : Str → Option Value} {P : Value → Heap → Prop} (G : h.Ns mainGlobals mg) (hl : scope.names.lookup x = some .globalImplicit) (hk : scope.kind = .function) (hv : mg x = some v) (k : P v h) (hd : (x == ("__debug__" : Str)) = false := by decide) : hw M A (eval (.Name x pos) (envOf name scope L a cd)) P h := by
  refine hw.of fun s hs => ?_
  subst hs
  exact Calls.Name_function_global hk hl (Calls.loadGlobal_global (env := envOf name scope L a cd) G hv ⟨_, _, rfl, k⟩) hd
theorem h_builtin {x : Str} {pos : Pos} {v : Value} {mg mb : Str → Option Value} {P : Value → Heap → Prop} (G : h.Ns mainGlobals mg) (B : h.Ns builtinsNs mb) (hl : scope.names.lookup x = some .globalImplicit) (hk : scope.kind = .function) (hn : mg x = none) (hv : mb x = some v) (k : P v h) (hd : (x == ("__debug__" : Str)) = false := by decide) : hw M A (eval (.Name x pos) (envOf name scope L a cd)) P h := by
  refine hw.of fun s hs => ?_
  subst hs
  exact Calls.Name_function_global hk hl (Calls.loadGlobal_builtin (env := envOf name scope L a cd) G hn B hv ⟨_, _, rfl, k⟩) hd
theorem h_binop {l r : Expr} {op : Operator} {pos : Pos} {P : Value → Heap → Prop} (x : hw M A (eval l env) (fun u h' => hw M A (eval r env) (fun v h'' => hw M A (binaryOp op u v) P h'') h') h) : hw M A (eval (.BinOp l op r pos) env) P h := hw.mk fun g d k o =>
  wpAny_BinOp (wpAny_mono (x.go g d k o) (fun u s' q => by
    obtain ⟨h', k', rfl, q⟩ := q
    exact wpAny_mono (q.go g d k' o) (fun v s'' q => by obtain ⟨h'', k'', rfl, q⟩ := q; exact q.go g d k'' o) fun _ _ q => q) fun _ _ q => q)
theorem h_cmp {l r : Expr} {op : CmpOp} {pos : Pos} {P : Value → Heap → Prop} (x : hw M A (eval l env) (fun u h' => hw M A (eval r env) (fun v h'' => hw M A (compareOp op u v) P h'') h') h) (hm : behindInMarks op r = false := by with_unfolding_all rfl) : hw M A (eval (.Compare l [op] [r] pos) env) P h := hw.mk fun g d k o =>
  wpAny_Compare1 (wpAny_mono (x.go g d k o) (fun u s' q => by
    obtain ⟨h', k', rfl, q⟩ := q
    exact wpAny_mono (q.go g d k' o) (fun v s'' q => by obtain ⟨h'', k'', rfl, q⟩ := q; exact q.go g d k'' o) fun _ _ q => q) fun _ _ q => q) hm
theorem h_test {l r whole} {op : CmpOp} {pos : Pos} {P : Bool → Heap → Prop} (x : hw M A (eval l env) (fun u h' => hw M A (eval r env) (fun v h'' => hw M A (compareOp op u v) (fun c h3 => hw M A (truthy c) P h3) h'') h') h) (hm : behindInMarks op r = false := by with_unfolding_all rfl) : hw M A (isTrue (.Compare l [op] [r] pos) env whole) P h := hw.mk fun g d k o =>
  wpAny_isTrue_Compare1 (wpAny_mono (x.go g d k o) (fun u s' q => by
    obtain ⟨h', k', rfl, q⟩ := q
    exact wpAny_mono (q.go g d k' o) (fun v s'' q => by
      obtain ⟨h'', k'', rfl, q⟩ := q
      exact wpAny_mono (q.go g d k'' o) (fun c s3 q => by obtain ⟨h3, k3, rfl, q⟩ := q; exact q.go g d k3 o) fun _ _ q => q) fun _ _ q => q) fun _ _ q => q) hm
theorem h_truthy {b : Bool} {P : Bool → Heap → Prop} (x : P b h) : hw M A (truthy (.bool b)) P h := hw.mk fun g d k o => wpAny_truthy_bool ⟨_, _, rfl, x⟩
theorem h_ifexp {t b o : Expr} {pos : Pos} {P : Value → Heap → Prop} (x : hw M A (isTrue t env (eval t env)) (fun c h' => hw M A (eval (if c then b else o) env) P h') h) : hw M A (eval (.IfExp t b o pos) env) P h := by
  rw [arm_eval_IfExp]
  refine hw_bind (hw_mono x fun c h' q => ?_)
  cases c <;> exact q

/-- the items of a display, the arguments of a call -/
noncomputable def hs (M : Model) (A : Around) (env : Env) (pos : Pos) (es : List Expr) (P : List Value → Heap → Prop) (h : Heap) : Prop := hw M A (spliced (backTo pos (starEach es env))) P h
theorem hs_nil {pos : Pos} {P : List Value → Heap → Prop} (x : P [] h) : hs M A env pos [] P h := hw_pure x
theorem hs_cons {pos : Pos} {e : Expr} {es : List Expr} {P : List Value → Heap → Prop} (x : hw M A (eval e env) (fun v h' => hs M A env pos es (fun vs h'' => P (v :: vs) h'') h') h) (he : starEach (e :: es) env = (false, eval e env) :: starEach es env := by rfl) : hs M A env pos (e :: es) P h := by
  unfold hs
  rw [he]
  refine hw.mk fun g d k o => ?_
  refine Calls.spliced_cons (wpAny_mono (x.go g d k o) (fun v s' q => ?_) fun _ _ q => q)
  obtain ⟨h', k', rfl, q⟩ := q
  exact q.go g d k' o
theorem h_newList {vs : List Value} {P : Value → Heap → Prop} (hz : vs.length ≤ 2 ^ 20) (x : ∀ a h', Grow h h' → h.get? a = none → h'.get? a = some { cls := .type "list", data := .seq vs.toArray } → P (.ref a) h') : hw M A (newList vs) P h := by
  refine hw.of fun s hs => ?_
  subst hs
  refine wpAny_newList ⟨_, _, rfl, x _ _ (fun b o e => Heap.get?_push_of_some _ e) ?_ (Heap.get?_push_size _ rfl)⟩ (by rw [sizeLine_eq]; have : (2:Nat)^20 = 1048576 := by decide
                                                                                                                       omega)
  cases e : s.heap.get? s.heap.objs.size with
  | none => rfl
  | some o => exact absurd (Heap.lt_size e) (Nat.lt_irrefl _)
theorem h_newTuple {vs : List Value} {P : Value → Heap → Prop} (hz : vs.length ≤ 2 ^ 20) (x : ∀ a h', Grow h h' → h.get? a = none → h'.get? a = some { cls := .type "tuple", data := .seq vs.toArray } → P (.ref a) h') : hw M A (newTuple vs) P h := by
  refine hw.of fun s hs => ?_
  subst hs
  refine wpAny_newObj_type ⟨_, _, rfl, x _ _ (fun b o e => Heap.get?_push_of_some _ e) ?_ (Heap.get?_push_size _ rfl)⟩ (by show vs.toArray.size ≤ sizeLine; rw [sizeLine_eq, List.size_toArray]; have : (2:Nat)^20 = 1048576 := by decide
                                                                                                                           omega)
  cases e : s.heap.get? s.heap.objs.size with
  | none => rfl
  | some o => exact absurd (Heap.lt_size e) (Nat.lt_irrefl _)
theorem h_List {es : List Expr} {pos : Pos} {P : Value → Heap → Prop} (x : hs M A env pos es (fun vs h' => hw M A (newList vs) P h') h) : hw M A (eval (.List es pos) env) P h := by
  rw [arm_eval_List]
  refine hw_bind (hw.mk fun g d k o => wpAny_standAt ⟨_, _, rfl, hw_bind ?_⟩)
  exact x
theorem h_Tuple {es : List Expr} {c} {pos : Pos} {P : Value → Heap → Prop} (x : hs M A env pos es (fun vs h' => hw M A (newTuple vs) P h') h) : hw M A (eval (.Tuple es c pos) env) P h := by
  rw [arm_eval_Tuple]
  refine hw_bind (hw.mk fun g d k o => wpAny_standAt ⟨_, _, rfl, hw_bind ?_⟩)
  exact x
end
end Mine
end
/-! part Fw2 -/
section
set_option maxRecDepth 100000
set_option linter.unusedVariables false
open PySem
namespace Mine
open PyProof.Rows PySem.Calls

section
variable {prog : Program} {w : World} {A : Around} {env : Env} {h : Heap} {name : Str} {scope : Scope} {L a : Addr} {cd : Value} {S : Addr → Obj → Prop} {m : Str → Option Value}
/-! ints -/
theorem i_add {a b : Int} {t u : Tok} {P : Value → Heap → Prop} (x : ∀ t, P (.int (a + b) t) h) : hw (model prog w) A (binaryOp .Add (.int a t) (.int b u)) P h := hw.of fun s hs => by subst hs; exact add_int ⟨_, _, rfl, x _⟩
theorem i_sub {a b : Int} {t u : Tok} {P : Value → Heap → Prop} (x : ∀ t, P (.int (a - b) t) h) : hw (model prog w) A (binaryOp .Sub (.int a t) (.int b u)) P h := hw.of fun s hs => by subst hs; exact sub_int ⟨_, _, rfl, x _⟩
theorem i_mod {a b : Int} {t u : Tok} {P : Value → Heap → Prop} (hb : b ≠ 0) (x : ∀ t, P (.int (a.fmod b) t) h) : hw (model prog w) A (binaryOp .Mod (.int a t) (.int b u)) P h := hw.of fun s hs => by subst hs; exact mod_int hb ⟨_, _, rfl, x _⟩
theorem i_div {a b : Int} {t u : Tok} {P : Value → Heap → Prop} (hb : b ≠ 0) (h1 : 0 ≤ a) (h2 : a < 1000000) (h3 : 0 ≤ b) (h4 : b < 1000) (x : ∀ t, P (.int (a.fdiv b) t) h) : hw (model prog w) A (binaryOp .FloorDiv (.int a t) (.int b u)) P h := hw.of fun s hs => by
  subst hs
  exact floordiv_int hb ⟨_, _, rfl, x _⟩ (Or.inl (PyProof.noPylong_small (by omega)))
theorem i_eq {a b : Int} {t u : Tok} {P : Value → Heap → Prop} (x : P (.bool (a == b)) h) : hw (model prog w) A (compareOp .Eq (.int a t) (.int b u)) P h := hw.of fun s hs => by subst hs; exact eq_int ⟨_, _, rfl, x⟩
theorem i_lt {a b : Int} {t u : Tok} {P : Value → Heap → Prop} (x : P (.bool (decide (a < b))) h) : hw (model prog w) A (compareOp .Lt (.int a t) (.int b u)) P h := hw.of fun s hs => by subst hs; exact lt_int ⟨_, _, rfl, x⟩
theorem i_le {a b : Int} {t u : Tok} {P : Value → Heap → Prop} (x : P (.bool (decide (a ≤ b))) h) : hw (model prog w) A (compareOp .LtE (.int a t) (.int b u)) P h := hw.of fun s hs => by subst hs; exact PySem.P.le_int ⟨_, _, rfl, x⟩
theorem i_gt {a b : Int} {t u : Tok} {P : Value → Heap → Prop} (x : P (.bool (decide (b < a))) h) : hw (model prog w) A (compareOp .Gt (.int a t) (.int b u)) P h := hw.of fun s hs => by subst hs; exact gt_int ⟨_, _, rfl, x⟩
theorem i_chr {i : Int} {t : Tok} {P : Value → Heap → Prop} (h1 : 0 ≤ i) (h2 : i ≤ 1114111) (x : ∀ t, P (.str ⟨#[i.toNat]⟩ t) h) : hw (model prog w) A (call (.builtin "chr") [.int i t]) P h := hw.of fun s hs => by
  subst hs
  exact PySem.P.chr_of_int (by simp; omega) ⟨_, _, rfl, x _⟩
theorem i_ord {x : Str} {t : Tok} {P : Value → Heap → Prop} (h1 : x.length = 1) (k : ∀ t, P (.int (x.cps.getD 0 0 : Nat) t) h) : hw (model prog w) A (call (.builtin "ord") [.str x t]) P h := hw.of fun s hs => by
  subst hs
  exact ord_of_one h1 ⟨_, _, rfl, k _⟩

/-! strs -/
theorem s_add {x y : Str} {t u : Tok} {P : Value → Heap → Prop} (hz : x.length + y.length ≤ 2 ^ 20) (k : ∀ t, P (.str (x ++ y) t) h) : hw (model prog w) A (binaryOp .Add (.str x t) (.str y u)) P h := hw.of fun s hs => by
  subst hs
  have e20 : (2 : Nat) ^ 20 = 1048576 := by decide
  exact PyProof.Rows.add_str (fun t' tk => ⟨_, _, rfl, k _⟩) (by rw [sizeLine_eq]; omega)

/-! calls -/
theorem h_callB {x : Str} {id : String} {p pos : Pos} {e : Expr} {es : List Expr} {P : Value → Heap → Prop} (hn : ∀ {Q : Value → Heap → Prop}, Q (.builtin id) h → hw (model prog w) A (eval (.Name x p) env) Q h)
    (k : hs (model prog w) A env pos (e :: es) (fun vs h' => hw (model prog w) A (call (.builtin id) vs) P h') h) (he : starEach (e :: es) env = (false, eval e env) :: starEach es env := by rfl) (hp : (backTo pos (starEach (e :: es) env)).any (·.1) = false := by rfl) :
    hw (model prog w) A (eval (.Call (.Name x p) (e :: es) [] pos) env) P h := by
  show hw (model prog w) A (eval (.Name x p) env >>= fun f => callWith pos f [] (backTo pos (starEach (e :: es) env)) []) P h
  refine hw_bind (hn ?_)
  refine hw.mk fun g d tk o => ?_
  refine callWith_builtin hp ?_
  have k' := k.go g d tk o
  unfold hs at k'
  rw [he] at k'
  rw [he]
  refine evalArgs_plain (wpAny_mono k' (fun vs s' q => ?_) fun _ _ q => q)
  · obtain ⟨h', k', rfl, q⟩ := q
    exact q.go g d k' o
theorem h_callT {x : Str} {T : String} {p pos : Pos} {e : Expr} {es : List Expr} {P : Value → Heap → Prop} (hn : ∀ {Q : Value → Heap → Prop}, Q (.type T) h → hw (model prog w) A (eval (.Name x p) env) Q h)
    (k : hs (model prog w) A env pos (e :: es) (fun vs h' => hw (model prog w) A (call (.type T) vs) P h') h) (he : starEach (e :: es) env = (false, eval e env) :: starEach es env := by rfl) (hp : (backTo pos (starEach (e :: es) env)).any (·.1) = false := by rfl) :
    hw (model prog w) A (eval (.Call (.Name x p) (e :: es) [] pos) env) P h := by
  show hw (model prog w) A (eval (.Name x p) env >>= fun f => callWith pos f [] (backTo pos (starEach (e :: es) env)) []) P h
  refine hw_bind (hn ?_)
  refine hw.mk fun g d tk o => ?_
  refine PyProof.Rows.callWith_type hp ?_
  have k' := k.go g d tk o
  unfold hs at k'
  rw [he] at k'
  rw [he]
  refine evalArgs_plain (wpAny_mono k' (fun vs s' q => ?_) fun _ _ q => q)
  · obtain ⟨h', k', rfl, q⟩ := q
    exact q.go g d k' o
theorem h_callF {x : Str} {f : Addr} {fo : Obj} {fd : FuncData} {p pos : Pos} {e : Expr} {es : List Expr} {P : Value → Heap → Prop} (hn : ∀ {Q : Value → Heap → Prop}, Q (.ref f) h → hw (model prog w) A (eval (.Name x p) env) Q h)
    (hfd : fo.data = .func fd)
    (k : hs (model prog w) A env pos (e :: es) (fun vs h' => h'.get? f = some fo ∧ hw (model prog w) A (call (.ref f) vs) P h') h) (he : starEach (e :: es) env = (false, eval e env) :: starEach es env := by rfl) :
    hw (model prog w) A (eval (.Call (.Name x p) (e :: es) [] pos) env) P h := by
  show hw (model prog w) A (eval (.Name x p) env >>= fun f => callWith pos f [] (backTo pos (starEach (e :: es) env)) []) P h
  refine hw_bind (hn ?_)
  refine hw.mk fun g d tk o => ?_
  refine callWith_function (o := fo) (fd := fd) ?_
  have k' := k.go g d tk o
  unfold hs at k'
  rw [he] at k'
  rw [he]
  refine evalArgs_plain (wpAny_mono k' (fun vs s' q => ?_) fun _ _ q => q)
  · obtain ⟨h', k', rfl, q1, q⟩ := q
    exact ⟨⟨q1, hfd⟩, q.go g d k' o⟩

/-! lists -/
noncomputable abbrev lobj (vs : List Value) (n : Nat) : Obj := { cls := .type "list", data := .seq vs.toArray n }
noncomputable abbrev tobj (vs : List Value) : Obj := { cls := .type "tuple", data := .seq vs.toArray }
theorem new_none (h : Heap) : h.get? h.objs.size = none := by
  cases e : h.get? h.objs.size with
  | none => rfl
  | some o => exact absurd (Heap.lt_size e) (Nat.lt_irrefl _)
theorem l_add {l b : Addr} {vs ws : List Value} {n n' : Nat} {P : Value → Heap → Prop} (hl : h.get? l = some (lobj vs n)) (hb : h.get? b = some (lobj ws n')) (hz : vs.length + ws.length ≤ 2 ^ 20)
    (k : ∀ a h', Grow h h' → h.get? a = none → h'.get? a = some (lobj (vs ++ ws) 0) → P (.ref a) h') : hw (model prog w) A (binaryOp .Add (.ref l) (.ref b)) P h := by
  refine hw.of fun s hs => ?_
  subst hs
  have e : vs.toArray ++ ws.toArray = (vs ++ ws).toArray := by simp
  refine concat_meets ⟨_, hl, rfl⟩ ⟨_, hb, rfl⟩ noFill_list_add seq_list_add PySem.F.slot_list_add PySem.F.entry_list_add (PySem.F.args_list_add_2 _ _) (list_addW l b vs.toArray ws.toArray n n' none none #[] #[] (by
    rw [sizeLine_eq]; have : (2:Nat)^20 = 1048576 := by decide
    simp; omega)) ⟨hl, hb, ?_⟩
  rw [e]
  exact ⟨_, _, rfl, k _ _ (fun b o e => Heap.get?_push_of_some _ e) (new_none _) (Heap.get?_push_size _ rfl)⟩
theorem l_item {value slice : Expr} {l : Addr} {vs : List Value} {n : Nat} {i : Int} {u : Tok} {v : Value} {P : Value → Heap → Prop} (hl : h.get? l = some (lobj vs n)) (h0 : 0 ≤ i) (hi : vs[i.toNat]? = some v) (hz : i < 2 ^ 63) (k : P v h)
    (hs : subscripted slice false (.ref l) (.int i u) = operate [.ref l, .int i u] (getItem (.ref l) (.int i u)) := by with_unfolding_all rfl) : hw (model prog w) A (subscriptTail value slice (.ref l) (.int i u)) P h := by
  refine hw.of fun s hs => ?_
  subst hs
  have hL : s.heap.IsList l vs.toArray := ⟨_, hl, rfl, _, rfl⟩
  exact tail_any hL.typeIs slot_list_getitem.lookup (wpAny_getItem_list hL h0 hz (by simpa using hi) ⟨_, _, rfl, k⟩) hs
theorem h_sub {value slice : Expr} {pos : Pos} {P : Value → Heap → Prop} (x : hw (model prog w) A (eval value env) (fun o h' => hw (model prog w) A (eval slice env) (fun i h'' => hw (model prog w) A (subscriptTail value slice o i) P h'') h') h) : hw (model prog w) A (eval (.Subscript value slice pos) env) P h := hw.mk fun g d k o =>
  Subscript_ (wpAny_mono (x.go g d k o) (fun u s' q => by
    obtain ⟨h', k', rfl, q⟩ := q
    exact wpAny_mono (q.go g d k' o) (fun v s'' q => by obtain ⟨h'', k'', rfl, q⟩ := q; exact q.go g d k'' o) fun _ _ q => q) fun _ _ q => q)
/-- ints upward -/
noncomputable def upInts : Int → Nat → List Int
  | _, 0 => []
  | a, n + 1 => a :: upInts (a + 1) n
theorem upInts_len : ∀ (n : Nat) (a : Int), (upInts a n).length = n
  | 0, _ => rfl
  | n + 1, a => by rw [upInts, List.length_cons, upInts_len n]
theorem intsAre_up : ∀ (vs : List Value) (n : Nat) (a : Int), vs.length = n → (∀ (j : Nat) (v : Value), vs[j]? = some v → ∃ t, v = Value.int (a + (j : Int)) t) → IntsAre vs (upInts a n)
  | [], 0, a, _, _ => .nil
  | v :: vs, n + 1, a, hn, k => by
    obtain ⟨t, e⟩ := k 0 v rfl
    have e' : v = .int a t := by rw [e]; simp
    subst e'
    refine .cons _ _ (intsAre_up vs n (a + 1) (by simpa using hn) fun j v hj => ?_)
    obtain ⟨t, e⟩ := k (j + 1) v hj
    refine ⟨t, ?_⟩
    rw [e]
    congr 1
    push_cast
    omega
theorem l_range {a b : Int} {t u : Tok} {n : Nat} {P : Value → Heap → Prop} (hh : A.handled = none) (h0 : 0 ≤ a) (hn : b = a + n) (hz : n ≤ 2 ^ 20) (hz' : b ≤ 2 ^ 20)
    (k : ∀ r h', Grow h h' → h.get? r = none → (∀ {P : Value → Heap → Prop}, (∀ z h'' vs c, Grow h' h'' → h'.get? z = none → h''.get? z = some (lobj vs c) → IntsAre vs (upInts a n) → P (.ref z) h'') → hw (model prog w) A (call (.type "list") [.ref r]) P h') → P (.ref r) h') :
    hw (model prog w) A (call (.type "range") [.int a t, .int b u]) P h := by
  have e20 : (2 : Nat) ^ 20 = 1048576 := by decide
  have e20' : (2 : Int) ^ 20 = 1048576 := by decide
  have e63 : (2 : Int) ^ 63 = 9223372036854775808 := by decide
  refine hw.of fun s hs => ?_
  subst hs
  refine call_range_2 ⟨_, _, rfl, k _ _ (fun b o e => Heap.get?_push_of_some _ e) (new_none _) ?_⟩
  intro P k'
  refine hw.of fun s' hs' => ?_
  have hr : IsRange s'.heap s.heap.objs.size a b 1 t u s.toks := by rw [hs']; exact IsRange.new _ _ _ _ _ _ _
  have hsz : Builtin.Range.rangeSize a b 1 = (n : Int) := by
    rw [rangeSize_nat]
    omega
  refine call_list_range hh hr (small_one (by omega) (by omega) (by omega) (by omega)) hsz (by omega) fun h'' tk acc c g hget hit => ?_
  refine ⟨h'', tk, rfl, ?_⟩
  rw [hs'] at g hget
  rw [hs']
  refine k' _ h'' acc.toList c g (new_none _) (by rw [hget, Array.toArray_toList]) ?_
  refine intsAre_up _ _ _ (by rw [Array.length_toList, hit.1]) fun j v hj => ?_
  obtain ⟨t, e⟩ := hit.2 j v (by rw [← hj, Array.getElem?_toList])
  exact ⟨t, by rw [e]; simp⟩
/-- the ints of a display of constants -/
noncomputable def ci : List Expr → Option (List Int)
  | [] => some []
  | .Constant (.int i) _ _ :: r => (ci r).map (i :: ·)
  | _ => none
theorem hs_ints {M : Model} {pos : Pos} : ∀ {es : List Expr} {is : List Int} {P : List Value → Heap → Prop}, ci es = some is → (∀ vs, IntsAre vs is → P vs h) → hs M A env pos es P h
  | [], is, P, e, k => by cases e; exact hs_nil (k _ .nil)
  | .Constant (.int i) kk p :: r, is, P, e, k => by
    unfold ci at e
    cases er : ci r with
    | none => rw [er] at e; cases e
    | some is' =>
      rw [er] at e
      cases e
      exact hs_cons (h_int fun t => hs_ints er fun vs hv => k _ (.cons _ _ hv))
theorem ints_get : ∀ {vs : List Value} {is : List Int}, IntsAre vs is → ∀ (j : Nat), j < is.length → ∃ t, vs[j]? = some (.int (is.getD j 0) t)
  | _, _, .cons i t r, 0, _ => ⟨t, rfl⟩
  | _, _, .cons i t r, j + 1, h => by
    obtain ⟨t', e⟩ := ints_get r j (by simpa using h)
    exact ⟨t', by simpa using e⟩
end
end Mine
end
/-! part Fn0 -/
section
set_option maxRecDepth 100000
set_option linter.unusedVariables false
open PySem PySem.W
namespace Mine
open PyProof.Rows PySem.Calls
theorem warm : PySem.Challenge.rw_st0017_01 = PySem.Challenge.rw_st0017_01 ∧ K = K := by
  k_fill
  exact ⟨rfl, rfl⟩
structure Base (w : World) (mg mb : Str → Option Value) (h : Heap) : Prop where
  X : (K w.params).In h
  g : h.Ns mainGlobals mg
  b : h.Ns builtinsNs mb
  bs : ∀ x : Str, x ≠ "__name__" → mb x = bootBuiltins x
  lim : h.NoLimit
theorem Base.grow {w : World} {mg mb : Str → Option Value} {h h' : Heap} (x : Base w mg mb h) (g : Grow h h') : Base w mg mb h' :=
  ⟨x.X.keeps g, x.g.keeps g, x.b.keeps g, x.bs, x.lim.keeps g⟩

section
variable {prog : Program} {w : World} {A : Around} {h : Heap} {mg mb : Str → Option Value}
theorem hc_def1 {f : Addr} {o : Obj} {name x : Str} {params : Arguments} {body : List Stmt} {scope : Scope} {pm cd doc v : Value} {P : Value → Heap → Prop} (hroom : A.depth < recursionLimit)
    (ho : h.get? f = some o) (hdata : o.data = .func (Calls.docDef name params body scope pm cd doc)) (hlim : h.NoLimit) (hcd : h.CodeRec cd name)
    (hbind : bindArgs (Calls.docDef name params body scope pm cd doc) ⟨[v], []⟩ = pure [(x, v)]) (hloc : scope.names.lookup x = some .local)
    (hco : scope.isCoroutine = false) (hgen : scope.isGenerator = false) (hk : scope.kind = .function) (hcell : (scope.names.all fun y => y.2 != .cell) = true)
    (k : ∀ L h₁, Grow h h₁ → Fm (fun b o => h.get? b = some o) L (upd (fun _ => none) x v) h₁ → hw (model prog w) (A.deeper (envOf name scope L f cd)) (execs body (envOf name scope L f cd)) (fun fl h' => P (match fl with | .ret v => v | _ => .none) h') h₁) :
    hc (model prog w) A (.call (.ref f) ⟨[v], []⟩) P h := by
  refine hc.mk fun g d tk os => ?_
  refine call_plain_ret hroom ho hdata hlim hcd hbind (fun y hy => by cases hy with | head => exact hloc | tail _ q => cases q) (fun h₁ F => ?_) hco hgen hk (fun y hy e => by
    have := List.all_eq_true.mp hcell y hy
    rw [e] at this; cases this)
  have em : (fun y => ([(x, v)] : List (Str × Value)).reverse.lookup y) = upd (fun _ => none) x v := by
    funext y
    show (match y == x with | true => some v | false => none) = if y = x then some v else none
    by_cases q : y = x
    · subst q; simp
    · rw [if_neg q, show (y == x) = false by simpa using q]
  rw [em] at F
  refine wpAny_mono ((k _ h₁ F.keep ⟨F.ns, F.keep, fun o e => ?_⟩).go g d _ os) (fun fl s' q => ?_) fun _ _ q => q.elim
  · have := Heap.lt_size e
    exact absurd this (Nat.lt_irrefl _)
  · obtain ⟨h', k', rfl, q⟩ := q
    exact ⟨_, h', k', rfl, rfl, q⟩
end

/-! the names of the scopes -/
theorem sc2_code : sc2.names.lookup (Str.ofString "code") = some .local := by kernel_rfl
theorem sc2_ord : sc2.names.lookup (Str.ofString "ord") = some .globalImplicit := by kernel_rfl
theorem sc2_b1_set : sc2.names.lookup (Str.ofString "b1_set") = some .globalImplicit := by kernel_rfl
theorem sc2_k : sc2.kind = .function := by kernel_rfl
theorem sc4_code : sc4.names.lookup (Str.ofString "code") = some .local := by kernel_rfl
theorem sc4_r : sc4.names.lookup (Str.ofString "r") = some .local := by kernel_rfl
theorem sc4_b3_exceptions : sc4.names.lookup (Str.ofString "b3_exceptions") = some .globalImplicit := by kernel_rfl
theorem sc4_ord : sc4.names.lookup (Str.ofString "ord") = some .globalImplicit := by kernel_rfl
theorem sc4_k : sc4.kind = .function := by kernel_rfl
theorem sc9_data : sc9.names.lookup (Str.ofString "data") = some .local := by kernel_rfl
theorem sc9_twin_re_1 : sc9.names.lookup (Str.ofString "_twin_re_1") = some .globalImplicit := by kernel_rfl
theorem sc9_twin_re_2 : sc9.names.lookup (Str.ofString "_twin_re_2") = some .globalImplicit := by kernel_rfl
theorem sc9_CRLF : sc9.names.lookup (Str.ofString "CRLF") = some .globalImplicit := by kernel_rfl
theorem sc9_k : sc9.kind = .function := by kernel_rfl
theorem sc12_text : sc12.names.lookup (Str.ofString "text") = some .local := by kernel_rfl
theorem sc12_k : sc12.kind = .function := by kernel_rfl
theorem sc14_codes : sc14.names.lookup (Str.ofString "codes") = some .local := by kernel_rfl
theorem sc14_n : sc14.names.lookup (Str.ofString "n") = some .local := by kernel_rfl
theorem sc14_list : sc14.names.lookup (Str.ofString "list") = some .globalImplicit := by kernel_rfl
theorem sc14_range : sc14.names.lookup (Str.ofString "range") = some .globalImplicit := by kernel_rfl
theorem sc14_chr : sc14.names.lookup (Str.ofString "chr") = some .globalImplicit := by kernel_rfl
theorem sc14_k : sc14.kind = .function := by kernel_rfl
theorem sc15_starts : sc15.names.lookup (Str.ofString "starts") = some .local := by kernel_rfl
theorem sc15_n : sc15.names.lookup (Str.ofString "n") = some .local := by kernel_rfl
theorem sc15_chr : sc15.names.lookup (Str.ofString "chr") = some .globalImplicit := by kernel_rfl
theorem sc15_k : sc15.kind = .function := by kernel_rfl
theorem sc16_codes : sc16.names.lookup (Str.ofString "codes") = some .local := by kernel_rfl
theorem sc16_n : sc16.names.lookup (Str.ofString "n") = some .local := by kernel_rfl
theorem sc16_list : sc16.names.lookup (Str.ofString "list") = some .globalImplicit := by kernel_rfl
theorem sc16_range : sc16.names.lookup (Str.ofString "range") = some .globalImplicit := by kernel_rfl
theorem sc16_chr : sc16.names.lookup (Str.ofString "chr") = some .globalImplicit := by kernel_rfl
theorem sc16_k : sc16.kind = .function := by kernel_rfl
theorem sc17_words : sc17.names.lookup (Str.ofString "words") = some .local := by kernel_rfl
theorem sc17_n : sc17.names.lookup (Str.ofString "n") = some .local := by kernel_rfl
theorem sc17_code : sc17.names.lookup (Str.ofString "code") = some .local := by kernel_rfl
theorem sc17_word : sc17.names.lookup (Str.ofString "word") = some .local := by kernel_rfl
theorem sc17_chr : sc17.names.lookup (Str.ofString "chr") = some .globalImplicit := by kernel_rfl
theorem sc17_k : sc17.kind = .function := by kernel_rfl
theorem sc18_text : sc18.names.lookup (Str.ofString "text") = some .local := by kernel_rfl
theorem sc18_kept : sc18.names.lookup (Str.ofString "kept") = some .local := by kernel_rfl
theorem sc18_sign : sc18.names.lookup (Str.ofString "sign") = some .local := by kernel_rfl
theorem sc18_told : sc18.names.lookup (Str.ofString "told") = some .local := by kernel_rfl
theorem sc18_in_table_b1 : sc18.names.lookup (Str.ofString "in_table_b1") = some .globalImplicit := by kernel_rfl
theorem sc18_map_table_b3 : sc18.names.lookup (Str.ofString "map_table_b3") = some .globalImplicit := by kernel_rfl
theorem sc18_k : sc18.kind = .function := by kernel_rfl
theorem sc19_n : sc19.names.lookup (Str.ofString "n") = some .local := by kernel_rfl
theorem sc19_kind : sc19.names.lookup (Str.ofString "kind") = some .local := by kernel_rfl
theorem sc19_rest : sc19.names.lookup (Str.ofString "rest") = some .local := by kernel_rfl
theorem sc19_end : sc19.names.lookup (Str.ofString "end") = some .local := by kernel_rfl
theorem sc19_law_nothing : sc19.names.lookup (Str.ofString "_law_nothing") = some .globalImplicit := by kernel_rfl
theorem sc19_law_letter : sc19.names.lookup (Str.ofString "_law_letter") = some .globalImplicit := by kernel_rfl
theorem sc19_law_plain : sc19.names.lookup (Str.ofString "_law_plain") = some .globalImplicit := by kernel_rfl
theorem sc19_law_word : sc19.names.lookup (Str.ofString "_law_word") = some .globalImplicit := by kernel_rfl
theorem sc19_k : sc19.kind = .function := by kernel_rfl
theorem sc20_text : sc20.names.lookup (Str.ofString "text") = some .local := by kernel_rfl
theorem sc20_quotedata : sc20.names.lookup (Str.ofString "quotedata") = some .globalImplicit := by kernel_rfl
theorem sc20_escape_cdata : sc20.names.lookup (Str.ofString "_escape_cdata") = some .globalImplicit := by kernel_rfl
theorem sc20_law_prepared : sc20.names.lookup (Str.ofString "_law_prepared") = some .globalImplicit := by kernel_rfl
theorem sc20_k : sc20.kind = .function := by kernel_rfl
theorem sc21_script : sc21.names.lookup (Str.ofString "script") = some .local := by kernel_rfl
theorem sc21_numbers : sc21.names.lookup (Str.ofString "numbers") = some .local := by kernel_rfl
theorem sc21_ring : sc21.names.lookup (Str.ofString "ring") = some .local := by kernel_rfl
theorem sc21_good : sc21.names.lookup (Str.ofString "good") = some .local := by kernel_rfl
theorem sc21_shorter : sc21.names.lookup (Str.ofString "shorter") = some .local := by kernel_rfl
theorem sc21_start : sc21.names.lookup (Str.ofString "start") = some .local := by kernel_rfl
theorem sc21_stretch : sc21.names.lookup (Str.ofString "stretch") = some .local := by kernel_rfl
theorem sc21_due : sc21.names.lookup (Str.ofString "due") = some .local := by kernel_rfl
theorem sc21_below : sc21.names.lookup (Str.ofString "below") = some .local := by kernel_rfl
theorem sc21_spelled : sc21.names.lookup (Str.ofString "spelled") = some .local := by kernel_rfl
theorem sc21_sent : sc21.names.lookup (Str.ofString "sent") = some .local := by kernel_rfl
theorem sc21_page : sc21.names.lookup (Str.ofString "page") = some .local := by kernel_rfl
theorem sc21_waiting : sc21.names.lookup (Str.ofString "waiting") = some .local := by kernel_rfl
theorem sc21_over : sc21.names.lookup (Str.ofString "over") = some .local := by kernel_rfl
theorem sc21_place : sc21.names.lookup (Str.ofString "place") = some .local := by kernel_rfl
theorem sc21_step : sc21.names.lookup (Str.ofString "step") = some .local := by kernel_rfl
theorem sc21_left : sc21.names.lookup (Str.ofString "left") = some .local := by kernel_rfl
theorem sc21_len : sc21.names.lookup (Str.ofString "len") = some .globalImplicit := by kernel_rfl
theorem sc21_range : sc21.names.lookup (Str.ofString "range") = some .globalImplicit := by kernel_rfl
theorem sc21_law_page : sc21.names.lookup (Str.ofString "_law_page") = some .globalImplicit := by kernel_rfl
theorem sc21_max : sc21.names.lookup (Str.ofString "max") = some .globalImplicit := by kernel_rfl
theorem sc21_k : sc21.kind = .function := by kernel_rfl
section
variable {w : World} {h : Heap} {mg mb : Str → Option Value}
theorem no_list (B : Base w mg mb h) : mg (Str.ofString "list") = none := mg_none_of B.X B.g (by k_is)
theorem no_range (B : Base w mg mb h) : mg (Str.ofString "range") = none := mg_none_of B.X B.g (by k_is)
theorem no_chr (B : Base w mg mb h) : mg (Str.ofString "chr") = none := mg_none_of B.X B.g (by k_is)
theorem no_ord (B : Base w mg mb h) : mg (Str.ofString "ord") = none := mg_none_of B.X B.g (by k_is)
theorem no_len (B : Base w mg mb h) : mg (Str.ofString "len") = none := mg_none_of B.X B.g (by k_is)
theorem no_max (B : Base w mg mb h) : mg (Str.ofString "max") = none := mg_none_of B.X B.g (by k_is)
theorem bt_list (B : Base w mg mb h) : mb (Str.ofString "list") = some (.type "list") := (B.bs _ (by rw [Ne, ofString_inj]; decide)).trans boot_list
theorem bt_range (B : Base w mg mb h) : mb (Str.ofString "range") = some (.type "range") := (B.bs _ (by rw [Ne, ofString_inj]; decide)).trans boot_range
theorem bt_chr (B : Base w mg mb h) : mb (Str.ofString "chr") = some (.builtin "chr") := (B.bs _ (by rw [Ne, ofString_inj]; decide)).trans (by boot_by_name)
theorem bt_ord (B : Base w mg mb h) : mb (Str.ofString "ord") = some (.builtin "ord") := (B.bs _ (by rw [Ne, ofString_inj]; decide)).trans (by boot_by_name)
theorem bt_len (B : Base w mg mb h) : mb (Str.ofString "len") = some (.builtin "len") := (B.bs _ (by rw [Ne, ofString_inj]; decide)).trans (by boot_by_name)
theorem bt_max (B : Base w mg mb h) : mb (Str.ofString "max") = some (.builtin "max") := (B.bs _ (by rw [Ne, ofString_inj]; decide)).trans (by boot_by_name)
theorem mg_b1_set (B : Base w mg mb h) : mg (Str.ofString "b1_set") = some (.ref 39) := mg_of B.X B.g (by k_is)
theorem mg_in_table_b1 (B : Base w mg mb h) : mg (Str.ofString "in_table_b1") = some (.ref 49) := mg_of B.X B.g (by k_is)
theorem mg_b3_exceptions (B : Base w mg mb h) : mg (Str.ofString "b3_exceptions") = some (.ref 50) := mg_of B.X B.g (by k_is)
theorem mg_map_table_b3 (B : Base w mg mb h) : mg (Str.ofString "map_table_b3") = some (.ref 95) := mg_of B.X B.g (by k_is)
theorem mg_twin_re_1 (B : Base w mg mb h) : mg (Str.ofString "_twin_re_1") = some (.ref 100) := mg_of B.X B.g (by k_is)
theorem mg_twin_re_2 (B : Base w mg mb h) : mg (Str.ofString "_twin_re_2") = some (.ref 105) := mg_of B.X B.g (by k_is)
theorem mg_quotedata (B : Base w mg mb h) : mg (Str.ofString "quotedata") = some (.ref 112) := mg_of B.X B.g (by k_is)
theorem mg_escape_cdata (B : Base w mg mb h) : mg (Str.ofString "_escape_cdata") = some (.ref 126) := mg_of B.X B.g (by k_is)
theorem mg_law_nothing (B : Base w mg mb h) : mg (Str.ofString "_law_nothing") = some (.ref 133) := mg_of B.X B.g (by k_is)
theorem mg_law_letter (B : Base w mg mb h) : mg (Str.ofString "_law_letter") = some (.ref 140) := mg_of B.X B.g (by k_is)
theorem mg_law_plain (B : Base w mg mb h) : mg (Str.ofString "_law_plain") = some (.ref 147) := mg_of B.X B.g (by k_is)
theorem mg_law_word (B : Base w mg mb h) : mg (Str.ofString "_law_word") = some (.ref 154) := mg_of B.X B.g (by k_is)
theorem mg_law_prepared (B : Base w mg mb h) : mg (Str.ofString "_law_prepared") = some (.ref 161) := mg_of B.X B.g (by k_is)
theorem mg_law_piece (B : Base w mg mb h) : mg (Str.ofString "_law_piece") = some (.ref 168) := mg_of B.X B.g (by k_is)
theorem mg_law_page (B : Base w mg mb h) : mg (Str.ofString "_law_page") = some (.ref 175) := mg_of B.X B.g (by k_is)
theorem mg_CRLF (B : Base w mg mb h) : mg (Str.ofString "CRLF") = some (.str (Str.mk #[13, 10]) 2370) := mg_of B.X B.g (by k_is)
end
end Mine
end
/-! part Fn1 -/
section
set_option maxRecDepth 100000
set_option linter.unusedVariables false
open PySem PySem.W
namespace Mine
open PyProof.Rows PySem.Calls
theorem warm1 : PySem.Challenge.rw_st0017_01 = PySem.Challenge.rw_st0017_01 ∧ K = K := by
  k_fill
  exact ⟨rfl, rfl⟩
noncomputable def b1codes : List Int := [173, 847, 6150, 6155, 6156, 6157, 8203, 8204, 8205, 8288, 65279] ++ upInts 65024 16

section
variable {w : World} {A : Around} {h : Heap} {mg mb : Str → Option Value}
theorem c_nothing (B : Base w mg mb h) (hA : A.handled = none) (hroom : A.depth < recursionLimit) (n : Int) (tk : Tok) :
    hc (model pw w) A (.call (.ref 133) ⟨[.int n tk], []⟩) (fun v h' => Grow h h' ∧ ∃ t, v = .str ⟨#[(b1codes.getD (n.fmod 27).toNat 0).toNat]⟩ t) h := by
  have ho : h.get? 133 = some (o133 w.params) := B.X _ _ (by k_is)
  refine hc_def1 (o := o133 w.params) (name := Str.ofString "_law_nothing") (x := Str.ofString "n") (params := ar14) (body := bd14) (scope := sc14) (pm := .str (Str.ofString "law_st0017_01") 2395) (cd := .ref 132) (doc := .none) (v := .int n tk)
    hroom ho (by kernel_rfl) B.lim (codeRec_of B.X (by k_is)) (by kernel_rfl) sc14_n (by kernel_rfl) (by kernel_rfl) sc14_k (by kernel_rfl) ?_
  intro L h₁ g₁ F
  rw [bd14]
  conv => arg 3; arg 1; whnf
  have B := B.grow g₁
  have hA' : (A.deeper (envOf (Str.ofString "_law_nothing") sc14 L 133 (Value.ref 132))).handled = none := hA
  refine h_cons (h_assign sc14_codes sc14_k (h_binop (h_List (hs_ints rfl fun vs hv => h_newList (by rw [hv.length]; decide) fun l h₂ g₂ n₂ hl => ?_))))
  have B₂ := B.grow g₂
  refine h_callT (T := "list") (fun q => h_builtin B₂.g B₂.b sc14_list sc14_k (no_list B₂) (bt_list B₂) q) (hs_cons (h_callT (T := "range") (fun q => h_builtin B₂.g B₂.b sc14_range sc14_k (no_range B₂) (bt_range B₂) q) ?_))
  refine hs_cons (h_int fun t1 => hs_cons (h_int fun t2 => hs_nil (l_range (n := 16) hA' (by decide) (by decide) (by decide) (by decide) fun r h₃ g₃ n₃ kr => ?_)))
  refine hs_nil (kr fun z h₄ ws c g₄ n₄ hz hw' => ?_)
  refine l_add (g₄ _ _ (g₃ _ _ hl)) hz (by rw [hv.length, hw'.length, upInts_len]; decide) fun y h₅ g₅ n₅ hy => ?_
  have F₅ := F.grow (g₂.trans (g₃.trans (g₄.trans g₅)))
  have hne : y ≠ L := (F.grow (g₂.trans (g₃.trans g₄))).new n₅
  refine ⟨_, _, F₅.learn hy hne, fun h₆ F₆ => ?_⟩
  have G₆ : Grow h h₆ := fun b o e => F₆.keep b o (.inl e)
  have B₆ := Base.grow (w := w) (mg := mg) (mb := mb) (h := h) ‹_› G₆
  refine h_cons (h_ret (h_callB (id := "chr") (fun q => h_builtin B₆.g B₆.b sc14_chr sc14_k (no_chr B₆) (bt_chr B₆) q) (hs_cons (h_sub (h_loc F₆ sc14_codes sc14_k (h_binop (h_loc F₆ sc14_n sc14_k (h_int fun t => i_mod (by decide) fun t => ?_))))))))
  have m0 := Int.fmod_nonneg_of_pos n (b := 27) (by decide)
  have m1 := Int.fmod_lt_of_pos n (b := 27) (by decide)
  have hj : (n.fmod 27).toNat < b1codes.length := by rw [show b1codes.length = 27 from rfl]; omega
  obtain ⟨t', e'⟩ := ints_get (hv.append hw') (n.fmod 27).toNat hj
  refine l_item (F₆.keep y _ (.inr ⟨rfl, rfl⟩)) m0 e' (by omega) ?_
  have hb : ∀ j < 27, 0 ≤ b1codes.getD j 0 ∧ b1codes.getD j 0 ≤ 1114111 := by decide
  obtain ⟨q0, q1⟩ := hb (n.fmod 27).toNat hj
  exact hs_nil (i_chr q0 q1 fun t'' => ⟨G₆, t'', rfl⟩)
end
end Mine
end
/-! part Fn2 -/
section
set_option maxRecDepth 100000
set_option linter.unusedVariables false
open PySem PySem.W
namespace Mine
open PyProof.Rows PySem.Calls
theorem warm2 : PySem.Challenge.rw_st0017_01 = PySem.Challenge.rw_st0017_01 ∧ K = K := by
  k_fill
  exact ⟨rfl, rfl⟩
noncomputable def starts : List Int := [65, 119808, 119860, 119912, 120016, 120172, 120224, 120276, 120328, 120380, 120432]
/-- a value is a tuple of two texts -/
noncomputable def IsPair (v : Value) (x y : Str) (h : Heap) : Prop := ∃ a t u, v = .ref a ∧ h.get? a = some (tobj [.str x t, .str y u])
theorem IsPair.grow {v : Value} {x y : Str} {h h' : Heap} (p : IsPair v x y h) (g : Grow h h') : IsPair v x y h' := let ⟨a, t, u, e, q⟩ := p; ⟨a, t, u, e, g _ _ q⟩
theorem getD_bounds {l : List Int} {a b : Int} (h : ∀ j < l.length, a ≤ l.getD j 0 ∧ l.getD j 0 ≤ b) {j : Nat} (hj : j < l.length) : a ≤ l.getD j 0 ∧ l.getD j 0 ≤ b := h j hj

section
variable {w : World} {A : Around} {h : Heap} {mg mb : Str → Option Value}
theorem c_letter (B : Base w mg mb h) (hroom : A.depth < recursionLimit) (n : Int) (tk : Tok) (p0 : 0 ≤ n) (p1 : n < 1000000) :
    hc (model pw w) A (.call (.ref 140) ⟨[.int n tk], []⟩) (fun v h' => Grow h h' ∧ IsPair v ⟨#[(starts.getD ((n.fdiv 26).fmod 11).toNat 0 + n.fmod 26).toNat]⟩ ⟨#[(97 + n.fmod 26).toNat]⟩ h') h := by
  have ho : h.get? 140 = some (o140 w.params) := B.X _ _ (by k_is)
  refine hc_def1 (o := o140 w.params) (name := Str.ofString "_law_letter") (x := Str.ofString "n") (params := ar15) (body := bd15) (scope := sc15) (pm := .str (Str.ofString "law_st0017_01") 2395) (cd := .ref 139) (doc := .none) (v := .int n tk)
    hroom ho (by kernel_rfl) B.lim (codeRec_of B.X (by k_is)) (by kernel_rfl) sc15_n (by kernel_rfl) (by kernel_rfl) sc15_k (by kernel_rfl) ?_
  intro L h₁ g₁ F
  rw [bd15]
  conv => arg 3; arg 1; whnf
  refine h_cons (h_assign sc15_starts sc15_k (h_List (hs_ints rfl fun vs hv => h_newList (by rw [hv.length]; decide) fun l h₂ g₂ n₂ hl => ?_)))
  replace hv : IntsAre vs starts := hv
  refine ⟨_, _, (F.grow g₂).learn hl (F.new n₂), fun h₃ F₃ => ?_⟩
  have G₃ : Grow h h₃ := fun b o e => F₃.keep b o (.inl e)
  have B₃ := B.grow G₃
  have m0 := Int.fmod_nonneg_of_pos n (b := 26) (by decide)
  have m1 := Int.fmod_lt_of_pos n (b := 26) (by decide)
  have d0 := Int.fmod_nonneg_of_pos (n.fdiv 26) (b := 11) (by decide)
  have d1 := Int.fmod_lt_of_pos (n.fdiv 26) (b := 11) (by decide)
  have hj : ((n.fdiv 26).fmod 11).toNat < starts.length := by rw [show starts.length = 11 from rfl]; omega
  obtain ⟨t', e'⟩ := ints_get hv _ hj
  have hb : ∀ j < 11, 0 ≤ starts.getD j 0 ∧ starts.getD j 0 ≤ 200000 := by decide
  obtain ⟨q0, q1⟩ := hb _ hj
  refine h_cons (h_ret (h_Tuple ?_))
  refine hs_cons (h_callB (id := "chr") (fun q => h_builtin B₃.g B₃.b sc15_chr sc15_k (no_chr B₃) (bt_chr B₃) q) ?_)
  refine hs_cons (h_binop (h_sub (h_loc (v := .ref l) F₃ sc15_starts sc15_k ?_)))
  refine h_binop (h_binop (h_loc (v := .int n tk) F₃ sc15_n sc15_k (h_int fun t => ?_)))
  refine i_div (by decide) p0 p1 (by decide) (by decide) fun t => h_int fun t => i_mod (by decide) fun t => ?_
  refine l_item (F₃.keep l _ (.inr ⟨rfl, rfl⟩)) d0 e' (by omega) ?_
  refine h_binop (h_loc (v := .int n tk) F₃ sc15_n sc15_k (h_int fun t => i_mod (by decide) fun t => i_add fun t => ?_))
  refine hs_nil (i_chr (by omega) (by omega) fun t1 => ?_)
  refine hs_cons (h_callB (id := "chr") (fun q => h_builtin B₃.g B₃.b sc15_chr sc15_k (no_chr B₃) (bt_chr B₃) q) ?_)
  refine hs_cons (h_binop (h_int fun t => h_binop (h_loc (v := .int n tk) F₃ sc15_n sc15_k (h_int fun t => ?_))))
  refine i_mod (by decide) fun t => i_add fun t => hs_nil (i_chr (by omega) (by omega) fun t2 => ?_)
  refine hs_nil (h_newTuple (by show 2 ≤ _; decide) fun a h₄ g₄ n₄ ha => ?_)
  exact ⟨G₃.trans g₄, a, _, _, rfl, ha⟩
end
end Mine
end
/-! part Fw3 -/
section
set_option maxRecDepth 100000
set_option linter.unusedVariables false
open PySem
namespace Mine
open PyProof.Rows PySem.Calls
section
variable {prog : Program} {w : World} {A : Around} {env : Env} {h : Heap} {name : Str} {scope : Scope} {L a : Addr} {cd : Value} {S : Addr → Obj → Prop} {m : Str → Option Value}
theorem h_unpack {t : Addr} {x y : Value} {P : List Value → Heap → Prop} (hh : A.handled = none) (ht : h.get? t = some (tobj [x, y])) (k : ∀ h', Grow h h' → P [x, y] h') : hw (model prog w) A (unpackItems (.ref t) 2 none) P h := by
  have hT : h.IsTuple t #[x, y] := ⟨_, ht, rfl, _, rfl⟩
  refine hw.mk fun g d tk o => ?_
  have := wpAny_unpackItems_tuple (prog := prog) (w := w) (A := A) (s := ⟨h, g, d, tk, o⟩) (E := fun _ _ => False) (Q := fun a s' => ∃ h' k', s' = ⟨h', g, d, k', o⟩ ∧ P a h') hh hT (fun h' he => ⟨h', tk, rfl, k h' fun b ob e => he b ob (fun q => by subst q; exact absurd (e.symm.trans (new_none h)) (by simp)) e⟩)
  exact this
theorem h_asgnN {x : Str} {p : Pos} {v : Value} {P : Unit → Heap → Prop} (F : Fm S L m h) (hl : scope.names.lookup x = some .local) (hk : scope.kind = .function) (k : ∀ h', Fm S L (upd m x v) h' → P () h') : hw (model prog w) A (assign (.Name x p) (envOf name scope L a cd) v) P h := hw.mk fun g d tk o =>
  assign_Name ((h_store (M := model prog w) (A := A) F hl hk k).go g d tk o)
theorem h_order2 {f f' : Value → Sem Unit} {u v : Value} {P : Unit → Heap → Prop} (k : hw (model prog w) A (f u) (fun _ h' => hw (model prog w) A (f' v) P h') h) : hw (model prog w) A (assignInOrder [f, f'] [u, v]) P h := hw.mk fun g d tk o => by
  refine assignInOrder_cons (wpAny_mono (k.go g d tk o) (fun _ s' q => ?_) fun _ _ q => q)
  obtain ⟨h', k', rfl, q⟩ := q
  refine assignInOrder_cons (wpAny_mono (q.go g d k' o) (fun _ s' q => ?_) fun _ _ q => q)
  exact assignInOrder_nil q
theorem h_asgn2 {x y : Str} {p q pos : Pos} {c} {t : Addr} {u v : Value} {P : Unit → Heap → Prop} (hh : A.handled = none) (F : Fm S L m h) (ht : h.get? t = some (tobj [u, v])) (hx : scope.names.lookup x = some .local) (hy : scope.names.lookup y = some .local) (hk : scope.kind = .function)
    (k : ∀ h', Fm S L (upd (upd m x u) y v) h' → P () h') : hw (model prog w) A (assign (.Tuple [.Name x p, .Name y q] c pos) (envOf name scope L a cd) (.ref t)) P h := by
  refine hw.of fun s hs => ?_
  subst hs
  have hT : s.heap.IsTuple t #[u, v] := ⟨_, ht, rfl, _, rfl⟩
  refine wpAny_assign_Tuple hh hT rfl rfl fun h' he => ?_
  have G : Grow s.heap h' := fun b o e => he b o (fun q => by subst q; rw [new_none] at e; cases e) e
  exact (h_order2 (h_asgnN (F.grow G) hx hk fun h₁ F₁ => h_asgnN F₁ hy hk fun h₂ F₂ => k h₂ F₂)).go s.gens s.drawn s.toks s.os
theorem h_assign2 {x y : Str} {p q tpos pos : Pos} {c} {e : Expr} {P : Flow → Heap → Prop} (hh : A.handled = none) (hx : scope.names.lookup x = some .local) (hy : scope.names.lookup y = some .local) (hk : scope.kind = .function)
    (k : hw (model prog w) A (eval e (envOf name scope L a cd)) (fun r h' => ∃ t u v S' m', r = .ref t ∧ h'.get? t = some (tobj [u, v]) ∧ Fm S' L m' h' ∧ ∀ h'', Fm S' L (upd (upd m' x u) y v) h'' → P .next h'') h)
    (hs : swapsWithSole [.Tuple [.Name x p, .Name y q] c tpos] e pos.line (envOf name scope L a cd) = pure false := by rfl)
    (hw' : swappedStores [.Tuple [.Name x p, .Name y q] c tpos] e (envOf name scope L a cd) = pure none := by rfl) :
    hw (model prog w) A (exec (.Assign [.Tuple [.Name x p, .Name y q] c tpos] e pos) (envOf name scope L a cd)) P h := hw.mk fun g d tk o =>
  Assign_Tuple (wpAny_mono (k.go g d tk o) (fun v s' q => by
    obtain ⟨h', k', rfl, t, u, v, S', m', rfl, ht, F, q⟩ := q
    exact (h_asgn2 hh F ht hx hy hk (P := fun _ => P .next) (fun h'' F' => q h'' F')).go g d k' o) fun _ _ q => q) hs hw'
theorem h_assignS {x y : Str} {p q tpos pos : Pos} {c} {e : Expr} {P : Flow → Heap → Prop} (hh : A.handled = none) (hx : scope.names.lookup x = some .local) (hy : scope.names.lookup y = some .local) (hk : scope.kind = .function)
    (k : hw (model prog w) A (eval e (envOf name scope L a cd)) (fun r h' => ∃ t u v S' m', r = .ref t ∧ h'.get? t = some (tobj [u, v]) ∧ Fm S' L m' h' ∧ ∀ h'', Fm S' L (upd (upd m' y v) x u) h'' → P .next h'') h)
    (hs : swapsWithSole [.Tuple [.Name x p, .Name y q] c tpos] e pos.line (envOf name scope L a cd) = pure false := by rfl)
    (hw' : swappedStores [.Tuple [.Name x p, .Name y q] c tpos] e (envOf name scope L a cd) = pure (some [x, y]) := by rfl) :
    hw (model prog w) A (exec (.Assign [.Tuple [.Name x p, .Name y q] c tpos] e pos) (envOf name scope L a cd)) P h := hw.mk fun g d tk o =>
  Assign_Tuple_swapped (wpAny_mono (k.go g d tk o) (fun v s' q => by
    obtain ⟨h', k', rfl, t, u, v, S', m', rfl, ht, F, q⟩ := q
    refine (h_unpack (P := fun items h₁ => hw (model prog w) A (assignInOrder ([x, y].reverse.map fun n => bindName (envOf name scope L a cd) n) items.reverse) (fun _ => P .next) h₁) hh ht fun h₁ G => ?_).use (s := ⟨h', g, d, k', o⟩) fun items h₁ tk₁ r => r.go g d tk₁ o
    have hb : ∀ {z : Str} {r : Value} {P' : Unit → Heap → Prop} {h₂ : Heap}, hw (model prog w) A (storeName (envOf name scope L a cd) z r) P' h₂ → hw (model prog w) A (bindName (envOf name scope L a cd) z r) P' h₂ := fun X => hw.mk fun g d k o => bindName_ (X.go g d k o)
    exact h_order2 (hb (h_store (F.grow G) hy hk fun h₂ F₂ => hb (h_store F₂ hx hk fun h₃ F₃ => q h₃ F₃)))) fun _ _ q => q) hs hw'
end
end Mine
end
/-! part Fw4 -/
section
set_option maxRecDepth 100000
set_option linter.unusedVariables false
open PySem
namespace Mine
open PyProof.Rows PySem.Calls
/-! displays of constants, and of tuples of constants -/
inductive Cn | int (i : Int) | str (s : Str)
inductive IsC : Cn → Value → Prop
  | int (i t) : IsC (.int i) (.int i t)
  | str (s t) : IsC (.str s) (.str s t)
noncomputable def cc : Expr → Option Cn
  | .Constant (.int i) _ _ => some (.int i)
  | .Constant (.str s) _ _ => some (.str s)
  | _ => none
noncomputable def ccs : List Expr → Option (List Cn)
  | [] => some []
  | e :: r => match cc e, ccs r with
    | some c, some cs => some (c :: cs)
    | _, _ => none
inductive AreC : List Value → List Cn → Prop
  | nil : AreC [] []
  | cons {v c vs cs} : IsC c v → AreC vs cs → AreC (v :: vs) (c :: cs)
theorem AreC.length {vs cs} (x : AreC vs cs) : vs.length = cs.length := by
  induction x with
  | nil => rfl
  | cons _ _ ih => simp [ih]
theorem AreC.get : ∀ {vs cs}, AreC vs cs → ∀ (j : Nat), j < cs.length → ∃ v, vs[j]? = some v ∧ IsC (cs.getD j (.int 0)) v
  | _, _, .cons x r, 0, _ => ⟨_, rfl, x⟩
  | _, _, .cons x r, j + 1, h => by
    obtain ⟨v, e, q⟩ := r.get j (by simpa using h)
    exact ⟨v, by simpa using e, by simpa using q⟩
noncomputable def cps : List Expr → Option (List (List Cn))
  | [] => some []
  | .Tuple es _ _ :: r => match ccs es, cps r with
    | some c, some cs => some (c :: cs)
    | _, _ => none
  | _ => none
inductive AreT (h : Heap) : List Value → List (List Cn) → Prop
  | nil : AreT h [] []
  | cons {a vs cs r rs} : h.get? a = some (tobj vs) → AreC vs cs → AreT h r rs → AreT h (.ref a :: r) (cs :: rs)
theorem AreT.grow {h h' : Heap} (g : Grow h h') : ∀ {vs css}, AreT h vs css → AreT h' vs css
  | _, _, .nil => .nil
  | _, _, .cons e x r => .cons (g _ _ e) x (r.grow g)
theorem AreT.append {h : Heap} : ∀ {vs css ws dss}, AreT h vs css → AreT h ws dss → AreT h (vs ++ ws) (css ++ dss)
  | _, _, _, _, .nil, y => y
  | _, _, _, _, .cons e x r, y => .cons e x (r.append y)
theorem AreT.length {h : Heap} : ∀ {vs css}, AreT h vs css → vs.length = css.length
  | _, _, .nil => rfl
  | _, _, .cons e x r => by simp [r.length]
theorem AreT.get {h : Heap} : ∀ {vs css}, AreT h vs css → ∀ (j : Nat), j < css.length → ∃ a ws, vs[j]? = some (.ref a) ∧ h.get? a = some (tobj ws) ∧ AreC ws (css.getD j [])
  | _, _, .cons e x r, 0, _ => ⟨_, _, rfl, e, x⟩
  | _, _, .cons e x r, j + 1, h => by
    obtain ⟨a, ws, e, q⟩ := r.get j (by simpa using h)
    exact ⟨a, ws, by simpa using e, by simpa using q⟩
section
variable {M : Model} {A : Around} {env : Env} {h : Heap}
theorem h_cc {e : Expr} {c : Cn} {P : Value → Heap → Prop} (hc : cc e = some c) (k : ∀ v, IsC c v → P v h) : hw M A (eval e env) P h := by
  unfold cc at hc
  split at hc
  · cases hc; exact h_int fun t => k _ (.int _ t)
  · cases hc; exact h_str fun t => k _ (.str _ t)
  · cases hc
theorem starEach_cc {e : Expr} {c : Cn} {es : List Expr} (hc : cc e = some c) : starEach (e :: es) env = (false, eval e env) :: starEach es env := by
  unfold cc at hc
  split at hc
  · rfl
  · rfl
  · cases hc
theorem hs_consts {pos : Pos} : ∀ {es : List Expr} {cs : List Cn} {P : List Value → Heap → Prop}, ccs es = some cs → (∀ vs, AreC vs cs → P vs h) → hs M A env pos es P h
  | [], _, P, e, k => by cases e; exact hs_nil (k _ .nil)
  | x :: r, _, P, e, k => by
    unfold ccs at e
    cases e1 : cc x with
    | none => rw [e1] at e; cases e
    | some c =>
      cases e2 : ccs r with
      | none => rw [e1, e2] at e; cases e
      | some cs =>
        rw [e1, e2] at e
        cases e
        exact hs_cons (h_cc e1 fun v hv => hs_consts e2 fun vs hvs => k _ (.cons hv hvs)) (starEach_cc e1)
theorem hs_tuples {pos : Pos} : ∀ {es : List Expr} {css : List (List Cn)} {P : List Value → Heap → Prop} {h : Heap}, cps es = some css → (∀ cs ∈ css, cs.length ≤ 2 ^ 20) → (∀ vs h', Grow h h' → AreT h' vs css → P vs h') → hs M A env pos es P h
  | [], _, P, h, e, hl, k => by cases e; exact hs_nil (k _ _ .refl .nil)
  | x :: r, _, P, h, e, hl, k => by
    unfold cps at e
    split at e
    · contradiction
    · rename_i es c p r' heq
      cases heq
      cases e1 : ccs es with
      | none => rw [e1] at e; cases e
      | some c =>
        cases e2 : cps r with
        | none => rw [e1, e2] at e; cases e
        | some cs =>
          rw [e1, e2] at e
          cases e
          refine hs_cons (h_Tuple (hs_consts e1 fun vs hv => h_newTuple (by rw [hv.length]; exact hl _ (by simp)) fun a h' g n ha => hs_tuples e2 (fun _ q => hl _ (by simp [q])) fun ws h'' g' q => k _ _ (g.trans g') (.cons (g' _ _ ha) hv q)))
    · cases e
end
/-! all that is known -/
noncomputable def AllBut (L : Addr) (h : Heap) : Addr → Obj → Prop := fun b o => h.get? b = some o ∧ b ≠ L
section
variable {S : Addr → Obj → Prop} {L : Addr} {m : Str → Option Value} {h h' : Heap}
theorem Fm.all (F : Fm S L m h) : Fm (AllBut L h) L m h := ⟨F.ns, fun _ _ x => x.1, fun _ x => x.2 rfl⟩
theorem Fm.sub (F : Fm S L m h) {b : Addr} {o : Obj} (x : S b o) : AllBut L h b o := ⟨F.keep _ _ x, fun e => F.off o (e ▸ x)⟩
theorem Fm.ne_seq (F : Fm S L m h) {b : Addr} {o : Obj} {xs : Array Value} {n : Nat} (e : h.get? b = some o) (hd : o.data = .seq xs n) : b ≠ L := by
  rintro rfl
  obtain ⟨o', es, ep, e', d', _⟩ := F.ns
  rw [e] at e'
  cases e'
  rw [hd] at d'
  cases d'
theorem AreT.all {m' : Str → Option Value} (F : Fm S L m h) (F' : Fm (AllBut L h) L m' h') : ∀ {vs css}, AreT h vs css → AreT h' vs css
  | _, _, .nil => .nil
  | _, _, .cons e x r => .cons (F'.keep _ _ ⟨e, F.ne_seq e rfl⟩) x (r.all F F')
/-- what was there before the frame stays, and is not the frame -/
structure From (h₀ : Heap) (L : Addr) (h : Heap) : Prop where
  go : ∀ b o, h₀.get? b = some o → h.get? b = some o ∧ b ≠ L
theorem From.of {h₀ : Heap} (F : Fm (fun b o => h₀.get? b = some o) L m h) : From h₀ L h := ⟨fun b o e => F.sub e⟩
theorem From.grow {h₀ : Heap} (x : From h₀ L h) (g : Grow h h') : From h₀ L h' := ⟨fun b o e => ⟨g _ _ (x.go b o e).1, (x.go b o e).2⟩⟩
theorem From.next {h₀ : Heap} (x : From h₀ L h) (F : Fm (AllBut L h) L m h') : From h₀ L h' := ⟨fun b o e => ⟨F.keep _ _ (x.go b o e), (x.go b o e).2⟩⟩
theorem From.G {h₀ : Heap} (x : From h₀ L h) : Grow h₀ h := fun b o e => (x.go b o e).1
end
end Mine
end
/-! part Fn3 -/
section
set_option maxRecDepth 100000
set_option linter.unusedVariables false
open PySem PySem.W
namespace Mine
open PyProof.Rows PySem.Calls
theorem warm3 : PySem.Challenge.rw_st0017_01 = PySem.Challenge.rw_st0017_01 ∧ K = K := by
  k_fill
  exact ⟨rfl, rfl⟩
noncomputable def plain1 : List Int := [172, 174, 846, 848, 6149, 6151, 6154, 6158, 8202, 8206, 8287, 8289]
noncomputable def plain2 : List Int := [65023, 65040, 65278, 65280]
noncomputable def plains : List Int := upInts 97 26 ++ plain1 ++ plain2

section
variable {w : World} {A : Around} {h : Heap} {mg mb : Str → Option Value}
theorem c_plain (B : Base w mg mb h) (hA : A.handled = none) (hroom : A.depth < recursionLimit) (n : Int) (tk : Tok) :
    hc (model pw w) A (.call (.ref 147) ⟨[.int n tk], []⟩) (fun v h' => Grow h h' ∧ IsPair v ⟨#[(plains.getD (n.fmod 42).toNat 0).toNat]⟩ ⟨#[(plains.getD (n.fmod 42).toNat 0).toNat]⟩ h') h := by
  have ho : h.get? 147 = some (o147 w.params) := B.X _ _ (by k_is)
  refine hc_def1 (o := o147 w.params) (name := Str.ofString "_law_plain") (x := Str.ofString "n") (params := ar16) (body := bd16) (scope := sc16) (pm := .str (Str.ofString "law_st0017_01") 2395) (cd := .ref 146) (doc := .none) (v := .int n tk)
    hroom ho (by kernel_rfl) B.lim (codeRec_of B.X (by k_is)) (by kernel_rfl) sc16_n (by kernel_rfl) (by kernel_rfl) sc16_k (by kernel_rfl) ?_
  intro L h₁ g₁ F
  rw [bd16]
  conv => arg 3; arg 1; whnf
  have B₁ := B.grow g₁
  have hA' : (A.deeper (envOf (Str.ofString "_law_plain") sc16 L 147 (Value.ref 146))).handled = none := hA
  refine h_cons (h_assign sc16_codes sc16_k (h_binop ?_))
  refine h_callT (T := "list") (fun q => h_builtin B₁.g B₁.b sc16_list sc16_k (no_list B₁) (bt_list B₁) q) ?_
  refine hs_cons (h_callT (T := "range") (fun q => h_builtin B₁.g B₁.b sc16_range sc16_k (no_range B₁) (bt_range B₁) q) ?_)
  refine hs_cons (h_int fun t1 => hs_cons (h_int fun t2 => hs_nil (l_range (n := 26) hA' (by decide) (by decide) (by decide) (by decide) fun r h₂ g₂ n₂ kr => ?_)))
  refine hs_nil (kr fun z h₃ ws c g₃ n₃ hz hws => ?_)
  refine h_List (hs_ints rfl fun vs hv => h_newList (by rw [hv.length]; decide) fun l h₄ g₄ n₄ hl => ?_)
  replace hv : IntsAre vs plain1 := hv
  refine l_add (g₄ _ _ hz) hl (by rw [hv.length, hws.length, upInts_len]; decide) fun y h₅ g₅ n₅ hy => ?_
  have F₄ := F.grow (g₂.trans (g₃.trans g₄))
  refine ⟨_, _, (F₄.grow g₅).learn hy (F₄.new n₅), fun h₆ F₆ => ?_⟩
  have G₆ : Grow h h₆ := fun b o e => F₆.keep b o (.inl e)
  refine h_cons (h_assign sc16_codes sc16_k (h_binop (h_loc (v := .ref y) F₆ sc16_codes sc16_k ?_)))
  refine h_List (hs_ints rfl fun us hu => h_newList (by rw [hu.length]; decide) fun l' h₇ g₇ n₇ hl' => ?_)
  replace hu : IntsAre us plain2 := hu
  refine l_add (g₇ _ _ (F₆.keep _ _ (.inr ⟨rfl, rfl⟩))) hl' (by rw [List.length_append, hu.length, hv.length, hws.length, upInts_len]; decide) fun y' h₈ g₈ n₈ hy' => ?_
  have F₇ := F₆.grow g₇
  refine ⟨_, _, (F₇.grow g₈).learn hy' (F₇.new n₈), fun h₉ F₉ => ?_⟩
  have G₉ : Grow h h₉ := fun b o e => F₉.keep b o (.inl (.inl e))
  have B₉ := B.grow G₉
  have m0 := Int.fmod_nonneg_of_pos n (b := 42) (by decide)
  have m1 := Int.fmod_lt_of_pos n (b := 42) (by decide)
  have hj : (n.fmod 42).toNat < plains.length := by rw [show plains.length = 42 from rfl]; omega
  obtain ⟨t', e'⟩ := ints_get ((hws.append hv).append hu) _ hj
  have hb : ∀ j < 42, 0 ≤ plains.getD j 0 ∧ plains.getD j 0 ≤ 1114111 := by decide
  obtain ⟨q0, q1⟩ := hb _ hj
  refine h_cons (h_ret (h_Tuple ?_))
  refine hs_cons (h_callB (id := "chr") (fun q => h_builtin B₉.g B₉.b sc16_chr sc16_k (no_chr B₉) (bt_chr B₉) q) ?_)
  refine hs_cons (h_sub (h_loc (v := .ref y') F₉ sc16_codes sc16_k (h_binop (h_loc (v := .int n tk) F₉ sc16_n sc16_k (h_int fun t => i_mod (by decide) fun t => ?_)))))
  refine l_item (F₉.keep y' _ (.inr ⟨rfl, rfl⟩)) m0 e' (by omega) ?_
  refine hs_nil (i_chr q0 q1 fun u1 => ?_)
  refine hs_cons (h_callB (id := "chr") (fun q => h_builtin B₉.g B₉.b sc16_chr sc16_k (no_chr B₉) (bt_chr B₉) q) ?_)
  refine hs_cons (h_sub (h_loc (v := .ref y') F₉ sc16_codes sc16_k (h_binop (h_loc (v := .int n tk) F₉ sc16_n sc16_k (h_int fun t => i_mod (by decide) fun t => ?_)))))
  refine l_item (F₉.keep y' _ (.inr ⟨rfl, rfl⟩)) m0 e' (by omega) ?_
  refine hs_nil (i_chr q0 q1 fun u2 => ?_)
  refine hs_nil (h_newTuple (by show 2 ≤ _; decide) fun a h₄ g₄ n₄ ha => ?_)
  exact ⟨G₉.trans g₄, a, _, _, rfl, ha⟩
end
end Mine
end
/-! part Fn4 -/
section
set_option maxRecDepth 100000
set_option linter.unusedVariables false
open PySem PySem.W
namespace Mine
open PyProof.Rows PySem.Calls
theorem warm4 : PySem.Challenge.rw_st0017_01 = PySem.Challenge.rw_st0017_01 ∧ K = K := by
  k_fill
  exact ⟨rfl, rfl⟩
noncomputable def word1 : List (Int × Str) := [(223, ⟨#[115, 115]⟩), (64256, ⟨#[102, 102]⟩), (64257, ⟨#[102, 105]⟩), (64258, ⟨#[102, 108]⟩), (64261, ⟨#[115, 116]⟩), (64262, ⟨#[115, 116]⟩), (8470, ⟨#[110, 111]⟩)]
noncomputable def word2 : List (Int × Str) := [(8360, ⟨#[114, 115]⟩), (8480, ⟨#[115, 109]⟩), (8482, ⟨#[116, 109]⟩), (13184, ⟨#[112, 97]⟩), (13188, ⟨#[107, 97]⟩), (64259, ⟨#[102, 102, 105]⟩)]
noncomputable def word3 : List (Int × Str) := [(64260, ⟨#[102, 102, 108]⟩), (8481, ⟨#[116, 101, 108]⟩), (13169, ⟨#[104, 112, 97]⟩), (13201, ⟨#[107, 104, 122]⟩), (13202, ⟨#[109, 104, 122]⟩), (13226, ⟨#[107, 112, 97]⟩)]
noncomputable def wordsL : List (Int × Str) := word1 ++ word2 ++ word3
noncomputable def cnp (x : Int × Str) : List Cn := [.int x.1, .str x.2]

section
variable {w : World} {A : Around} {h : Heap} {mg mb : Str → Option Value}
theorem c_word (B : Base w mg mb h) (hA : A.handled = none) (hroom : A.depth < recursionLimit) (n : Int) (tk : Tok) :
    hc (model pw w) A (.call (.ref 154) ⟨[.int n tk], []⟩) (fun v h' => Grow h h' ∧ IsPair v ⟨#[(wordsL.getD (n.fmod 19).toNat (0, ⟨#[]⟩)).1.toNat]⟩ (wordsL.getD (n.fmod 19).toNat (0, ⟨#[]⟩)).2 h') h := by
  have ho : h.get? 154 = some (o154 w.params) := B.X _ _ (by k_is)
  refine hc_def1 (o := o154 w.params) (name := Str.ofString "_law_word") (x := Str.ofString "n") (params := ar17) (body := bd17) (scope := sc17) (pm := .str (Str.ofString "law_st0017_01") 2395) (cd := .ref 153) (doc := .none) (v := .int n tk)
    hroom ho (by kernel_rfl) B.lim (codeRec_of B.X (by k_is)) (by kernel_rfl) sc17_n (by kernel_rfl) (by kernel_rfl) sc17_k (by kernel_rfl) ?_
  intro L h₁ g₁ F
  rw [bd17]
  conv => arg 3; arg 1; whnf
  have hA' : (A.deeper (envOf (Str.ofString "_law_word") sc17 L 154 (Value.ref 153))).handled = none := hA
  have hle : ∀ (l : List (Int × Str)), ∀ cs ∈ l.map cnp, cs.length ≤ 2 ^ 20 := by
    intro l cs q
    obtain ⟨x, _, rfl⟩ := List.mem_map.mp q
    show 2 ≤ _
    decide
  refine h_cons (h_assign sc17_words sc17_k (h_List (hs_tuples (css := word1.map cnp) (by kernel_rfl) (hle _) fun vs h₂ g₂ hv => h_newList (by rw [hv.length]; decide) fun l h₃ g₃ n₃ hl => ?_)))
  have F₃ := F.grow (g₂.trans g₃)
  refine ⟨_, _, F₃.all, fun h₄ F₄ => ?_⟩
  have hv₄ := (hv.grow g₃).all F₃ F₄
  have hl₄ := F₄.keep _ _ ⟨hl, F₃.ne_seq hl rfl⟩
  have R₄ := ((From.of F).grow (g₂.trans g₃)).next F₄
  refine h_cons (h_assign sc17_words sc17_k (h_binop (h_loc (v := .ref l) F₄ sc17_words sc17_k ?_)))
  refine h_List (hs_tuples (css := word2.map cnp) (by kernel_rfl) (hle _) fun us h₅ g₅ hu => h_newList (by rw [hu.length]; decide) fun l' h₆ g₆ n₆ hl' => ?_)
  refine l_add (g₆ _ _ (g₅ _ _ hl₄)) hl' (by rw [hv.length, hu.length]; decide) fun y h₇ g₇ n₇ hy => ?_
  have G₇ := g₅.trans (g₆.trans g₇)
  have F₇ := F₄.grow G₇
  refine ⟨_, _, F₇.all, fun h₈ F₈ => ?_⟩
  have hv₈ := ((hv₄.grow G₇).append (hu.grow (g₆.trans g₇))).all F₇ F₈
  have hy₈ := F₈.keep _ _ ⟨hy, F₇.ne_seq hy rfl⟩
  have R₈ := (R₄.grow G₇).next F₈
  refine h_cons (h_assign sc17_words sc17_k (h_binop (h_loc (v := .ref y) F₈ sc17_words sc17_k ?_)))
  refine h_List (hs_tuples (css := word3.map cnp) (by kernel_rfl) (hle _) fun ps h₉ g₉ hp => h_newList (by rw [hp.length]; decide) fun l'' hA gA nA hl'' => ?_)
  refine l_add (gA _ _ (g₉ _ _ hy₈)) hl'' (by rw [List.length_append, hv.length, hu.length, hp.length]; decide) fun z hB gB nB hz => ?_
  have GB := g₉.trans (gA.trans gB)
  have FB := F₈.grow GB
  refine ⟨_, _, FB.all, fun hC FC => ?_⟩
  have hvC := ((hv₈.grow GB).append (hp.grow (gA.trans gB))).all FB FC
  have hzC := FC.keep _ _ ⟨hz, FB.ne_seq hz rfl⟩
  have RC := (R₈.grow GB).next FC
  have m0 := Int.fmod_nonneg_of_pos n (b := 19) (by decide)
  have m1 := Int.fmod_lt_of_pos n (b := 19) (by decide)
  rw [← List.map_append, ← List.map_append, show word1 ++ word2 ++ word3 = wordsL from rfl] at hvC
  have hlen : wordsL.length = 19 := rfl
  have hj : (n.fmod 19).toNat < wordsL.length := by rw [hlen]; omega
  obtain ⟨a, ws, e1, e2, e3⟩ := hvC.get _ (by rw [List.length_map]; exact hj)
  rw [List.getD_eq_getElem?_getD, List.getElem?_map, List.getElem?_eq_getElem hj] at e3
  generalize hq : wordsL[(n.fmod 19).toNat] = q at e3
  have hD : wordsL.getD (n.fmod 19).toNat (0, ⟨#[]⟩) = q := by rw [List.getD_eq_getElem?_getD, List.getElem?_eq_getElem hj, ← hq]; rfl
  rw [hD]
  obtain ⟨q0, q1⟩ : 0 ≤ q.1 ∧ q.1 ≤ 1114111 := by
    have hb : ∀ x ∈ wordsL, 0 ≤ x.1 ∧ x.1 ≤ 1114111 := by decide
    exact hb q (hq ▸ List.getElem_mem hj)
  obtain ⟨c, s⟩ := q
  simp only [Option.map_some, Option.getD_some, cnp] at e3
  obtain ⟨t1, t2, rfl⟩ : ∃ t1 t2, ws = [.int c t1, .str s t2] := by
    cases e3 with | cons x1 r => cases r with | cons x2 r => cases r with | nil => cases x1 with | int _ t1 => cases x2 with | str _ t2 => exact ⟨_, _, rfl⟩
  refine h_cons (h_assign2 hA' sc17_code sc17_word sc17_k (h_sub (h_loc (v := .ref z) FC sc17_words sc17_k (h_binop (h_loc (v := .int n tk) FC sc17_n sc17_k (h_int fun t => i_mod (by decide) fun t => ?_))))))
  refine l_item hzC m0 e1 (by omega) ?_
  refine ⟨a, _, _, _, _, rfl, e2, FC.all, fun hE FE => ?_⟩
  have GE := (RC.next FE).G
  have BE := B.grow GE
  refine h_cons (h_ret (h_Tuple ?_))
  refine hs_cons (h_callB (id := "chr") (fun q => h_builtin BE.g BE.b sc17_chr sc17_k (no_chr BE) (bt_chr BE) q) ?_)
  refine hs_cons (h_loc (v := .int c t1) FE sc17_code sc17_k (hs_nil (i_chr q0 q1 fun u1 => ?_)))
  refine hs_cons (h_loc (v := .str s t2) FE sc17_word sc17_k (hs_nil (h_newTuple (by show 2 ≤ _; decide) fun a h₄ g₄ n₄ ha => ?_)))
  exact ⟨GE.trans g₄, a, _, _, rfl, ha⟩
end
end Mine
end
/-! part Fw5 -/
section
set_option maxRecDepth 100000
set_option linter.unusedVariables false
open PySem
namespace Mine
open PyProof.Rows PySem.Calls
section
variable {prog : Program} {w : World} {A : Around} {env : Env} {h : Heap} {name : Str} {scope : Scope} {L a : Addr} {cd : Value} {S : Addr → Obj → Prop} {m : Str → Option Value}
theorem h_method0 (T id : String) {o : Expr} {nm : Str} {apos pos : Pos} {P : Value → Heap → Prop} (pa : PlainAttrs T) (slot : Slot T nm id) (hty : typeOf (.builtin id) = pure (.type "method_descriptor"))
    (x : hw (model prog w) A (eval o env) (fun ov h' => (∀ s : Shared, s.heap = h' → s.TypeIs ov T) ∧ (∀ a, ov = .ref a → ∃ ob, h'.get? a = some ob ∧ ob.dict = none) ∧ hw (model prog w) A (call (.builtin id) [ov]) P h') h)
    (hbase : attributeBase o nm env (eval o env) = eval o env := by rfl)
    (hline : (apos.endLine == pos.line) = true := by rfl) :
    hw (model prog w) A (eval (.Call (.Attribute o nm apos) [] [] pos) env) P h := hw.mk fun g d tk os => by
  refine wpAny_Call_method hbase rfl hline pa slot hty (wpAny_mono (x.go g d tk os) (fun ov s' q => ?_) fun _ _ q => q)
  obtain ⟨h', k', rfl, q1, q2, q⟩ := q
  refine ⟨q1 _ rfl, q2, ?_⟩
  exact callWith_builtin rfl (evalArgs_nil3 (q.go g d k' os))
theorem h_method (T id : String) {o : Expr} {nm : Str} {apos pos : Pos} {e : Expr} {es : List Expr} {P : Value → Heap → Prop} (pa : PlainAttrs T) (slot : Slot T nm id) (hty : typeOf (.builtin id) = pure (.type "method_descriptor"))
    (x : hw (model prog w) A (eval o env) (fun ov h' => (∀ s : Shared, s.heap = h' → s.TypeIs ov T) ∧ (∀ a, ov = .ref a → ∃ ob, h'.get? a = some ob ∧ ob.dict = none) ∧ hs (model prog w) A env pos (e :: es) (fun vs h'' => hw (model prog w) A (call (.builtin id) (ov :: vs)) P h'') h') h)
    (hbase : attributeBase o nm env (eval o env) = eval o env := by rfl)
    (hfew : ((backTo pos (starEach (e :: es) env)).all (fun x => !x.1) && (backToKw pos (keywordEach [] env)).all (fun x => x.1.isSome)
      && decide ((e :: es).length + ([] : List Keyword).length + (if ([] : List Keyword).isEmpty then 0 else 1) < 30)) = true := by rfl)
    (he : starEach (e :: es) env = (false, eval e env) :: starEach es env := by rfl)
    (hp : (backTo pos (starEach (e :: es) env)).any (·.1) = false := by rfl)
    (hline : (apos.endLine == pos.line) = true := by rfl) :
    hw (model prog w) A (eval (.Call (.Attribute o nm apos) (e :: es) [] pos) env) P h := hw.mk fun g d tk os => by
  refine wpAny_Call_method hbase hfew hline pa slot hty (wpAny_mono (x.go g d tk os) (fun ov s' q => ?_) fun _ _ q => q)
  obtain ⟨h', k', rfl, q1, q2, q⟩ := q
  refine ⟨q1 _ rfl, q2, ?_⟩
  refine callWith_builtin hp ?_
  have k := q.go g d k' os
  rw [he] at k ⊢
  refine evalArgs_plain (wpAny_mono k (fun vs s'' q => ?_) fun _ _ q => q)
  obtain ⟨h'', k'', rfl, q⟩ := q
  exact q.go g d k'' os
theorem d_get {d : Addr} {f : Int → Option Value} {c : Int} {t : Tok} {P : Value → Heap → Prop} (hm : h.MapOf (intKind prog w) d f) (hd : (d == sysModules) = false) (x : P ((f c).getD .none) h) : hw (model prog w) A (call (.builtin "dict.get") [.ref d, .int c t]) P h := hw.of fun s hs => by
  subst hs
  exact call_meetsIn PySem.F.slot_dict_get hm.typeIs PySem.F.entry_dict_get (PySem.F.args_dict_get_2 _ _) (meets_dict_get (intKind prog w) d (intKind_is prog w c t) hd) ⟨f, hm, _, _, rfl, x⟩
theorem s_lower {x : Str} {t : Tok} {P : Value → Heap → Prop} (hz : x.length ≤ 5592405) (k : ∀ t, P (.str (Txt.lower x) t) h) : hw (model prog w) A (call (.builtin "str.lower") [.str x t]) P h := hw.of fun s hs => by
  subst hs
  exact SCL.lower hz fun _ => ⟨_, _, rfl, k _⟩
theorem set_in {d : Addr} {n : Nat} {f : Int → Bool} {c : Int} {t : Tok} {P : Value → Heap → Prop} (hS : h.SetOf (intKind prog w) d f n) (x : P (.bool (f c)) h) : hw (model prog w) A (compareOp .In (.int c t) (.ref d)) P h := hw.of fun s hs => by
  subst hs
  exact wpAny_inSet_of (intKind_is prog w c t) rfl hS ⟨_, _, rfl, x⟩
theorem is_noN {v : Value} {P : Value → Heap → Prop} (x : P (.bool (!(v == .none))) h) : hw (model prog w) A (compareOp .IsNot v .none) P h := hw.of fun s hs => by
  subst hs
  exact isNot_none ⟨_, _, rfl, x⟩
theorem is_bb {a b : Bool} {P : Value → Heap → Prop} (x : P (.bool (a == b)) h) : hw (model prog w) A (compareOp .Is (.bool a) (.bool b)) P h := hw.of fun s hs => by
  subst hs
  exact is_bool ⟨_, _, rfl, x⟩
end
end Mine
end
/-! part Fn5 -/
section
set_option maxRecDepth 100000
set_option linter.unusedVariables false
open PySem PySem.W
namespace Mine
open PyProof.Rows PySem.Calls
theorem warm5 : PySem.Challenge.rw_st0017_01 = PySem.Challenge.rw_st0017_01 ∧ K = K := by
  k_fill
  exact ⟨rfl, rfl⟩
noncomputable def b1keys : List (Int × Nat) := [(65024, 300), (65025, 301), (65026, 302), (65027, 303), (65028, 304), (65029, 305), (6150, 286), (65030, 306), (65031, 307), (65032, 308), (65033, 309), (6155, 287), (6156, 288), (6157, 289), (8203, 290), (8204, 291), (8205, 292), (65034, 310), (65035, 311), (65036, 312), (65037, 313), (65038, 314), (65039, 315), (173, 284), (847, 285), (8288, 293), (65279, 294)]
noncomputable def b1in (k : Int) : Bool := b1keys.any fun e => e.1 == k
noncomputable def b1ents : List (Int × Value) := b1keys.map fun e => (e.1, .int e.1 e.2)
noncomputable def b1tab (l : Bool) : SetTable := ⟨127, #[0, 1, 2, 3, 4, 5, 6, 7, 8, 9, 10, 11, 12, 13, 14, 15, 16, 17, 18, 19, 20, 21, 22, 45, 79, 96, 127], #[], 0, l, 2, true⟩
theorem o39_eq (P : Params) : o39 P = ⟨.type "set", none, .set b1ents.toArray 29 (b1tab (!P.followText "set-order")), #[]⟩ := by kernel_rfl
theorem setOf_b1 (prog : Program) (w : World) {h : Heap} {P : Params} (ho : h.get? 39 = some (o39 P)) : h.SetOf (intKind prog w) 39 b1in 27 := by
  rw [o39_eq] at ho
  refine ⟨_, _, _, _, ho, ⟨rfl, rfl, rfl⟩, rfl, ?_, ?_, ?_, ?_, rfl⟩
  · intro e he
    rw [List.toList_toArray] at he
    obtain ⟨x, hx, rfl⟩ := List.mem_map.mp he
    refine ⟨⟨x.1, intKind_is _ _ _ _, ?_⟩, rfl⟩
    have : ∀ x ∈ b1keys, x.1 = hashInt x.1 := by decide +kernel
    exact this x hx
  · intro k
    rw [List.toList_toArray, b1in, List.any_eq_true]
    constructor
    · rintro ⟨x, hx, e⟩
      have e := eq_of_beq e
      subst e
      exact ⟨_, List.mem_map_of_mem (f := fun e : Int × Nat => (e.1, Value.int e.1 e.2)) hx, intKind_is _ _ _ _⟩
    · rintro ⟨e, he, q⟩
      obtain ⟨x, hx, rfl⟩ := List.mem_map.mp he
      refine ⟨x, hx, ?_⟩
      obtain ⟨t, e⟩ := Value.isInt_shape (k := k) (v := .int x.1 x.2) q
      cases e
      simp
  · rw [List.size_toArray]; decide +kernel
  · rw [List.size_toArray]; rfl

section
variable {w : World} {A : Around} {h : Heap} {mg mb : Str → Option Value}
theorem c_inb1 (B : Base w mg mb h) (hroom : A.depth < recursionLimit) (c : Nat) (tk : Tok) :
    hc (model pw w) A (.call (.ref 49) ⟨[.str ⟨#[c]⟩ tk], []⟩) (fun v h' => Grow h h' ∧ v = .bool (b1in c)) h := by
  have ho : h.get? 49 = some (o49 w.params) := B.X _ _ (by k_is)
  refine hc_def1 (o := o49 w.params) (name := Str.ofString "in_table_b1") (x := Str.ofString "code") (params := ar2) (body := bd2) (scope := sc2) (pm := .str (Str.ofString "cpy313.stringprep") 282) (cd := .ref 48) (doc := .none) (v := .str ⟨#[c]⟩ tk)
    hroom ho (by kernel_rfl) B.lim (codeRec_of B.X (by k_is)) (by kernel_rfl) sc2_code (by kernel_rfl) (by kernel_rfl) sc2_k (by kernel_rfl) ?_
  intro L h₁ g₁ F
  rw [bd2]
  conv => arg 3; arg 1; whnf
  have B₁ := B.grow g₁
  refine h_cons (h_ret (h_cmp ?_))
  refine h_callB (id := "ord") (fun q => h_builtin B₁.g B₁.b sc2_ord sc2_k (no_ord B₁) (bt_ord B₁) q) ?_
  refine hs_cons (h_loc (v := .str ⟨#[c]⟩ tk) F sc2_code sc2_k (hs_nil (i_ord rfl fun t => ?_)))
  refine h_global B₁.g sc2_b1_set sc2_k (mg_b1_set B₁) ?_
  exact set_in (setOf_b1 _ _ (B₁.X 39 (o39 w.params) (by k_is))) ⟨g₁, rfl⟩
end
end Mine
end
/-! part Fn6 -/
section
set_option maxRecDepth 100000
set_option linter.unusedVariables false
open PySem PySem.W
namespace Mine
open PyProof.Rows PySem.Calls
theorem warm6 : PySem.Challenge.rw_st0017_01 = PySem.Challenge.rw_st0017_01 ∧ K = K := by
  k_fill
  exact ⟨rfl, rfl⟩
noncomputable def findP : List (Int × Str) → Int → Option Str
  | [], _ => none
  | x :: r, k => if x.1 = k then some x.2 else findP r k
theorem findP_append (l r : List (Int × Str)) (k : Int) : findP (l ++ r) k = (findP l k).or (findP r k) := by
  induction l with
  | nil => simp [findP]
  | cons x l ih =>
    rw [List.cons_append, findP, findP, ih]
    split <;> simp
noncomputable def b3get (k : Int) : Option Str := findP b3pairs k
noncomputable def fold (c : Nat) : Str := (b3get c).getD (Txt.lower ⟨#[c]⟩)
/-- the entries of the table -/
inductive Ents : List (Int × Str) → List DictEntry → Prop
  | nil : Ents [] []
  | cons {x l es} (t : Tok) : Ents l es → Ents (x :: l) (⟨x.1, .int x.1 t, .str x.2 (t + 1)⟩ :: es)
theorem b3Ent_of (d : Nat) : ∀ (l : List (Int × Str)) (t : Nat), Ents l (b3Ent d t l)
  | [], t => .nil
  | x :: r, t => .cons t (b3Ent_of d r (t + d))
theorem Ents.append : ∀ {a b c d}, Ents a b → Ents c d → Ents (a ++ c) (b ++ d)
  | _, _, _, _, .nil, y => y
  | _, _, _, _, .cons t x, y => .cons t (x.append y)
theorem b3Entries_of : Ents b3pairs b3Entries := by
  have := (b3Ent_of 3 (b3pairs.take 646) 351).append (b3Ent_of 2 (b3pairs.drop 646) 2289)
  rwa [List.take_append_drop] at this
theorem Ents.keys {prog : Program} {w : World} : ∀ {l : List (Int × Str)} {es : List DictEntry}, Ents l es → (∀ x ∈ l, x.1 = hashInt x.1) → ∀ e ∈ es, ∃ k, (intKind prog w).is k e.key = true ∧ e.hash = (intKind prog w).hash k
  | _, _, .nil, _, e, he => by cases he
  | x :: l, _, .cons t r, hl, e, he => by
    cases he with
    | head => exact ⟨x.1, intKind_is _ _ _ _, hl x (by simp)⟩
    | tail _ q => exact r.keys (fun y hy => hl y (by simp [hy])) e q
theorem ent_find {prog : Program} {w : World} : ∀ {l : List (Int × Str)} {es : List DictEntry}, Ents l es → ∀ k : Int,
    ((es.find? fun e => (intKind prog w).is k e.key).map (·.val)) = none ∧ findP l k = none ∨ ∃ s t, ((es.find? fun e => (intKind prog w).is k e.key).map (·.val)) = some (.str s t) ∧ findP l k = some s
  | _, _, .nil, k => .inl ⟨rfl, rfl⟩
  | x :: l, _, .cons t r, k => by
    rw [findP, List.find?_cons]
    have e : (intKind prog w).is k (.int x.1 t) = decide (x.1 = k) := by
      show Value.isInt k (.int x.1 t) = _
      unfold Value.isInt
      exact Bool.eq_iff_iff.mpr (by simp)
    rw [e]
    by_cases q : x.1 = k
    · simp only [q, decide_true, if_true]
      exact .inr ⟨x.2, _, rfl, rfl⟩
    · simp only [q, decide_false, if_false]
      exact ent_find r k
theorem b3hash : ∀ x ∈ b3pairs, x.1 = hashInt x.1 := by decide +kernel
theorem mapOf_b3 (prog : Program) (w : World) {h : Heap} {P : Params} (ho : h.get? 50 = some (o50 P)) : h.MapOf (intKind prog w) 50 (fun k => (b3Entries.find? fun e => (intKind prog w).is k e.key).map (·.val)) := by
  refine ⟨_, b3Entries.toArray, 650, ho, ⟨rfl, rfl, rfl⟩, rfl, fun e he => b3Entries_of.keys b3hash e (by simpa using he), fun k => ?_⟩
  rw [findBy, List.find?_toArray]
section
variable {w : World} {A : Around} {h : Heap} {mg mb : Str → Option Value}
theorem c_b3 (B : Base w mg mb h) (hroom : A.depth < recursionLimit) (c : Nat) (tk : Tok) :
    hc (model pw w) A (.call (.ref 95) ⟨[.str ⟨#[c]⟩ tk], []⟩) (fun v h' => Grow h h' ∧ ∃ t, v = .str (fold c) t) h := by
  have ho : h.get? 95 = some (o95 w.params) := B.X _ _ (by k_is)
  refine hc_def1 (o := o95 w.params) (name := Str.ofString "map_table_b3") (x := Str.ofString "code") (params := ar4) (body := bd4) (scope := sc4) (pm := .str (Str.ofString "cpy313.stringprep") 282) (cd := .ref 94) (doc := .none) (v := .str ⟨#[c]⟩ tk)
    hroom ho (by kernel_rfl) B.lim (codeRec_of B.X (by k_is)) (by kernel_rfl) sc4_code (by kernel_rfl) (by kernel_rfl) sc4_k (by kernel_rfl) ?_
  intro L h₁ g₁ F
  rw [bd4]
  conv => arg 3; arg 1; whnf
  have B₁ := B.grow g₁
  have hm := mapOf_b3 pw w (B₁.X 50 (o50 w.params) (by k_is))
  refine h_cons (h_assign sc4_r sc4_k (h_method "dict" "dict.get" PySem.F.plainAttrs_dict PySem.F.slot_dict_get PySem.F.type_dict_get ?_))
  refine h_global B₁.g sc4_b3_exceptions sc4_k (mg_b3_exceptions B₁) ⟨fun s e => Heap.MapOf.typeIs (knd := intKind pw w) (by rw [e]; exact hm), hm.noDict, ?_⟩
  refine hs_cons (h_callB (id := "ord") (fun q => h_builtin B₁.g B₁.b sc4_ord sc4_k (no_ord B₁) (bt_ord B₁) q) ?_)
  refine hs_cons (h_loc (v := .str ⟨#[c]⟩ tk) F sc4_code sc4_k (hs_nil (i_ord rfl fun t => hs_nil (d_get hm rfl ?_))))
  refine ⟨_, _, F.all, fun h₂ F₂ => ?_⟩
  have G₂ := ((From.of F).next F₂).G
  have e0 : (((⟨#[c]⟩ : Str).cps.getD 0 0 : Nat) : Int) = (c : Int) := rfl
  rw [e0] at F₂
  rcases ent_find (prog := pw) (w := w) b3Entries_of (c : Int) with ⟨e1, e2⟩ | ⟨s, t', e1, e2⟩
  · rw [e1] at F₂
    have ef : fold c = Txt.lower ⟨#[c]⟩ := by rw [fold, b3get, e2]; rfl
    rw [ef]
    refine h_cons (h_if (h_test (h_loc (v := .none) F₂ sc4_r sc4_k (h_none (is_noN (h_truthy ?_))))))
    refine h_nil (h_cons (h_ret (h_method0 "str" "str.lower" PySem.F.plainAttrs_str PySem.F.slot_str_lower PySem.F.type_str_lower ?_)))
    refine h_loc (v := .str ⟨#[c]⟩ tk) F₂ sc4_code sc4_k ⟨fun s e => rfl, (fun _ e => nomatch e), s_lower (by show 1 ≤ _; decide) fun t => ⟨G₂, t, rfl⟩⟩
  · rw [e1] at F₂
    have ef : fold c = s := by rw [fold, b3get, e2]; rfl
    rw [ef]
    refine h_cons (h_if (h_test (h_loc (v := .str s t') F₂ sc4_r sc4_k (h_none (is_noN (h_truthy ?_))))))
    refine h_cons (h_ret (h_loc (v := .str s t') F₂ sc4_r sc4_k ⟨G₂, t', rfl⟩))
end
end Mine
end
/-! part Fn7 -/
section
set_option maxRecDepth 100000
set_option linter.unusedVariables false
open PySem PySem.W
namespace Mine
open PyProof.Rows PySem.Calls
theorem warm7 : PySem.Challenge.rw_st0017_01 = PySem.Challenge.rw_st0017_01 ∧ K = K := by
  k_fill
  exact ⟨rfl, rfl⟩
noncomputable abbrev St (l : List Nat) : Str := ⟨l.toArray⟩
noncomputable def esc1 (c : Nat) (z : List Nat) (l : List Nat) : List Nat := l.flatMap fun d => if d = c then z else [d]
theorem esc1_append (c z) (a b : List Nat) : esc1 c z (a ++ b) = esc1 c z a ++ esc1 c z b := by simp [esc1]
theorem esc1_free (c z) : ∀ (l : List Nat), c ∉ l → esc1 c z l = l
  | [], _ => rfl
  | d :: l, h => by
    have h1 : ¬ d = c := fun e => h (e ▸ List.mem_cons_self ..)
    show (if d = c then z else [d]) ++ esc1 c z l = _
    rw [if_neg h1, esc1_free c z l fun m => h (List.mem_cons_of_mem _ m)]
    rfl
theorem esc1_join (c : Nat) (z : List Nat) : ∀ parts : List Str, (∀ p ∈ parts, c ∉ p.cps.toList) → esc1 c z (Str.join ⟨#[c]⟩ parts).cps.toList = (Str.join (St z) parts).cps.toList
  | [], _ => rfl
  | [p], h => esc1_free c z _ (h p (List.mem_singleton.mpr rfl))
  | p :: q :: r, h => by
    have ih := esc1_join c z (q :: r) fun a ha => h a (List.mem_cons_of_mem _ ha)
    show esc1 c z (p ++ ⟨#[c]⟩ ++ Str.join ⟨#[c]⟩ (q :: r)).cps.toList = (p ++ St z ++ Str.join (St z) (q :: r)).cps.toList
    simp only [Str.cps_append, Array.toList_append]
    rw [esc1_append, esc1_append, ih, esc1_free c z _ (h p (List.mem_cons_self ..))]
    show p.cps.toList ++ esc1 c z [c] ++ _ = _
    simp [esc1]
theorem replace_esc (c : Nat) (z l : List Nat) : Txt.replace (St l) ⟨#[c]⟩ (St z) = St (esc1 c z l) := by
  have e : (Txt.replace (St l) ⟨#[c]⟩ (St z)).cps.toList = esc1 c z l := by
    rw [StrLaws.replace_one, ← esc1_join c z _ (StrLaws.split_free (St l) c), StrLaws.join_split]
  have : Txt.replace (St l) ⟨#[c]⟩ (St z) = ⟨(Txt.replace (St l) ⟨#[c]⟩ (St z)).cps.toList.toArray⟩ := by rw [Array.toArray_toList]
  rw [this, e]
theorem esc1_length (c : Nat) (z : List Nat) : ∀ (l : List Nat), z.length ≤ 5 → (esc1 c z l).length ≤ 5 * l.length
  | [], _ => by simp [esc1]
  | d :: l, h => by
    show ((if d = c then z else [d]) ++ esc1 c z l).length ≤ _
    have := esc1_length c z l h
    split <;> simp <;> omega

section
variable {prog : Program} {w : World} {A : Around} {h : Heap} {name : Str} {scope : Scope} {L a : Addr} {cd : Value} {S : Addr → Obj → Prop} {m : Str → Option Value}
theorem h_esc {x c' z' : Str} {c : Nat} {l z : List Nat} {t : Tok} {k1 k2 k3 : Nat} {p1 p2 p3 p4 p5 p6 p7 p8 p9 p10 p11 : Pos} {P : Flow → Heap → Prop} (F : Fm S L m h) (hl : scope.names.lookup x = some .local) (hk : scope.kind = .function) (hv : m x = some (.str (St l) t))
    (hn : l.length ≤ 1048576) (hc : c' = ⟨#[c]⟩) (hz : z' = St z) (hz1 : z.length ≤ 14) (hcz : (c' == z') = false)
    (k : ∀ h' t', Fm S L (upd m x (.str (St (esc1 c z l)) t')) h' ∨ (Fm S L m h' ∧ m x = some (.str (St (esc1 c z l)) t')) → P .next h')
    (hd : (x == ("__debug__" : Str)) = false := by decide)
    (hm : behindInMarks .In (.Name x p2) = false := by with_unfolding_all rfl)
    (hsw : swapsWith (.Call (.Attribute (.Name x p4) "replace" p5) [.Constant (.str c') k2 p6, .Constant (.str z') k3 p7] [] p8) (some (.Name x p9)) p10.line (envOf name scope L a cd) = pure false := by rfl)
    (hfew : ((backTo p8 (starEach [.Constant (.str c') k2 p6, .Constant (.str z') k3 p7] (envOf name scope L a cd))).all (fun x => !x.1) && (backToKw p8 (keywordEach [] (envOf name scope L a cd))).all (fun x => x.1.isSome)
      && decide (([.Constant (.str c') k2 p6, .Constant (.str z') k3 p7] : List Expr).length + ([] : List Keyword).length + (if ([] : List Keyword).isEmpty then 0 else 1) < 30)) = true := by rfl)
    (hline : (p5.endLine == p8.line) = true := by rfl) :
    hw (model prog w) A (exec (.If (.Compare (.Constant (.str c') k1 p1) [.In] [.Name x p2] p3)
      [.Assign [.Name x p9] (.Call (.Attribute (.Name x p4) "replace" p5) [.Constant (.str c') k2 p6, .Constant (.str z') k3 p7] [] p8) p10] [] p11) (envOf name scope L a cd)) P h := hw.mk fun g d tk o => by
  refine wpAny_If (wpAny_isTrue_Compare1 (wpAny_Constant_str (k := k1) (pos := p1) (wpAny_Name (wpAny_loadName_local hk hl F.ns hv (PySem.P.in_str (wpAny_truthy_bool ?_))) hd)) hm)
  subst hc hz
  rw [StrLaws.found_one]
  by_cases hin : c ∈ l
  · rw [show decide (c ∈ (St l).cps.toList) = true from decide_eq_true hin]
    refine wpAny_execs_cons (wpAny_Assign_Name (wpAny_Call_method (T := "str") (id := "str.replace") rfl hfew hline PySem.F.plainAttrs_str PySem.F.slot_str_replace PySem.F.type_str_replace ?_) hsw)
    refine wpAny_Name (wpAny_loadName_local hk hl F.ns hv ⟨rfl, (fun _ e => nomatch e), ?_⟩) hd
    refine callWith_builtin rfl ?_
    refine evalArgs_plain (rest := [(false, eval (.Constant (.str (St z)) k3 p7) (envOf name scope L a cd))]) ?_
    refine spliced_cons ?_
    refine wpAny_Constant_str (k := k2) (pos := p6) ?_
    refine spliced_cons ?_
    refine wpAny_Constant_str (k := k3) (pos := p7) ?_
    refine spliced_nil ?_
    refine SC.replaceW (by simp) (by simp) (by simp) hcz hn hz1 fun t' kk => ?_
    rw [replace_esc]
    exact ((h_store (M := model prog w) (A := A) F hl hk (P := fun _ h'' => hw (model prog w) A (execs [] (envOf name scope L a cd)) P h'') (fun h'' F' => h_nil (k h'' t' (.inl F')))).go g d kk o) |> fun q => wpAny_mono q (fun _ s' q => by obtain ⟨h', k', rfl, q⟩ := q; exact q.go g d k' o) fun _ _ q => q
  · rw [show decide (c ∈ (St l).cps.toList) = false from decide_eq_false hin]
    have : esc1 c z l = l := esc1_free c z l hin
    rw [this] at k
    exact (h_nil (k h t (.inr ⟨F, hv⟩))).go g d _ o
theorem h_try {body orelse : List Stmt} {h₀ : ExceptHandler} {hs : List ExceptHandler} {pos : Pos} {env : Env} {P : Flow → Heap → Prop}
    (x : hw (model prog w) A (execs body env) (fun f h' => match f with | .next => hw (model prog w) A (execs orelse env) P h' | f => P f h') h) : hw (model prog w) A (exec (.Try body (h₀ :: hs) orelse [] pos) env) P h := hw.mk fun g d k o =>
  wpAny_Try_except (wpAny_mono (x.go g d k o) (fun f s' q => by
    obtain ⟨h', k', rfl, q⟩ := q
    cases f with
    | next => exact q.go g d k' o
    | brk => exact ⟨_, _, rfl, q⟩
    | cont => exact ⟨_, _, rfl, q⟩
    | ret v => exact ⟨_, _, rfl, q⟩) fun _ _ q => q.elim)
end
noncomputable def esc (l : List Nat) : List Nat := esc1 62 [38, 103, 116, 59] (esc1 60 [38, 108, 116, 59] (esc1 38 [38, 97, 109, 112, 59] l))
section
variable {w : World} {A : Around} {h : Heap} {mg mb : Str → Option Value}
theorem c_esc (B : Base w mg mb h) (hroom : A.depth < recursionLimit) (l : List Nat) (tk : Tok) (hz : l.length ≤ 40000) :
    hc (model pw w) A (.call (.ref 126) ⟨[.str (St l) tk], []⟩) (fun v h' => Grow h h' ∧ ∃ t, v = .str (St (esc l)) t) h := by
  have ho : h.get? 126 = some (o126 w.params) := B.X _ _ (by k_is)
  refine hc_def1 (o := o126 w.params) (name := Str.ofString "_escape_cdata") (x := Str.ofString "text") (params := ar12) (body := bd12) (scope := sc12) (pm := .str (Str.ofString "cpy313.xml.etree.ElementTree") 2379) (cd := .ref 125) (doc := .none) (v := .str (St l) tk)
    hroom ho (by kernel_rfl) B.lim (codeRec_of B.X (by k_is)) (by kernel_rfl) sc12_text (by kernel_rfl) (by kernel_rfl) sc12_k (by kernel_rfl) ?_
  intro L h₁ g₁ F
  rw [bd12]
  conv => arg 3; arg 1; whnf
  have l1 := esc1_length 38 [38, 97, 109, 112, 59] l (by decide)
  have l2 := esc1_length 60 [38, 108, 116, 59] (esc1 38 [38, 97, 109, 112, 59] l) (by decide)
  refine h_cons (h_try (h_cons ?_))
  refine h_esc (c := 38) (l := l) (z := [38, 97, 109, 112, 59]) F sc12_text sc12_k upd_eq (by omega) (by kernel_rfl) (by kernel_rfl) (by decide) (by decide +kernel) fun h₂ t₂ e₂ => ?_
  have s₂ : ∃ m₂, Fm (fun b o => h.get? b = some o) L m₂ h₂ ∧ m₂ (Str.ofString "text") = some (.str (St (esc1 38 [38, 97, 109, 112, 59] l)) t₂) := by
    rcases e₂ with e | ⟨e, e'⟩
    · exact ⟨_, e, upd_eq⟩
    · exact ⟨_, e, e'⟩
  obtain ⟨m₂, F₂, e₂⟩ := s₂
  refine h_cons (h_esc (c := 60) (l := esc1 38 [38, 97, 109, 112, 59] l) (z := [38, 108, 116, 59]) F₂ sc12_text sc12_k e₂ (by omega) (by kernel_rfl) (by kernel_rfl) (by decide) (by decide +kernel) fun h₃ t₃ e₃ => ?_)
  have s₃ : ∃ m₂, Fm (fun b o => h.get? b = some o) L m₂ h₃ ∧ m₂ (Str.ofString "text") = some (.str (St (esc1 60 [38, 108, 116, 59] (esc1 38 [38, 97, 109, 112, 59] l))) t₃) := by
    rcases e₃ with e | ⟨e, e'⟩
    · exact ⟨_, e, upd_eq⟩
    · exact ⟨_, e, e'⟩
  obtain ⟨m₃, F₃, e₃⟩ := s₃
  refine h_cons (h_esc (c := 62) (l := esc1 60 [38, 108, 116, 59] (esc1 38 [38, 97, 109, 112, 59] l)) (z := [38, 103, 116, 59]) F₃ sc12_text sc12_k e₃ (by omega) (by kernel_rfl) (by kernel_rfl) (by decide) (by decide +kernel) fun h₄ t₄ e₄ => ?_)
  have s₄ : ∃ m₂, Fm (fun b o => h.get? b = some o) L m₂ h₄ ∧ m₂ (Str.ofString "text") = some (.str (St (esc l)) t₄) := by
    rcases e₄ with e | ⟨e, e'⟩
    · exact ⟨_, e, upd_eq⟩
    · exact ⟨_, e, e'⟩
  obtain ⟨m₄, F₄, e₄⟩ := s₄
  exact h_cons (h_ret (h_loc F₄ sc12_text sc12_k ⟨F₄.keep, t₄, rfl⟩ e₄))
end
end Mine
end
/-! part Rx1 -/
section
set_option maxRecDepth 100000
set_option linter.unusedVariables false
open PySem PySem.W PyProof.Rows
namespace Mine
open PySem.Sre PySem.Builtin.Re

theorem runFor_done {m : Sre.M} (h : m.outcome.isSome = true) : ∀ n, m.runFor n = m
  | 0 => rfl
  | n + 1 => by unfold M.runFor; rw [if_pos h]
theorem runFor_succ {m : Sre.M} {n : Nat} (h : m.outcome.isSome = false) : m.runFor (n + 1) = m.step.runFor n := by
  rw [M.runFor]; rw [if_neg (by rw [h]; exact Bool.false_ne_true)]
theorem runFor_add : ∀ (a b : Nat) (m : Sre.M), m.runFor (a + b) = (m.runFor a).runFor b
  | 0, b, m => by rw [Nat.zero_add]; rfl
  | a + 1, b, m => by
    cases h : m.outcome.isSome with
    | true => rw [runFor_done h, runFor_done h, runFor_done h]
    | false => rw [show a + 1 + b = a + b + 1 by omega, runFor_succ h, runFor_succ h, runFor_add a b]

section
variable {MM : Model} {A : Around} {E : Value → Shared → Prop} {s : Shared}
theorem drive : ∀ (turns n : Nat) (m : Sre.M) {Q : Sre.M → Shared → Prop}, n ≤ 4 * turns → n ≠ 0 → (m.runFor n).outcome.isSome = true → Q (m.runFor n) s → wpAny MM A (reDrive turns m) Q E s
  | 0, n, m, Q, h, h0, _, _ => by omega
  | t + 1, n, m, Q, h, h0, ho, hq => by
    unfold reDrive
    dsimp only [reTurnSteps]
    cases h4 : (m.runFor 4).outcome.isSome with
    | true =>
      rw [if_pos rfl]
      have e : m.runFor 4 = m.runFor n := by
        rcases Nat.le_total n 4 with q | q
        · rw [show 4 = n + (4 - n) by omega, runFor_add, runFor_done ho]
        · rw [show n = 4 + (n - 4) by omega, runFor_add, runFor_done h4]
      rw [e]; exact wpAny_pure hq
    | false =>
      rw [if_neg Bool.false_ne_true]
      have hn : 4 < n := by
        rcases Nat.lt_or_ge 4 n with q | q
        · exact q
        · exfalso
          have e : m.runFor 4 = m.runFor n := by rw [show 4 = n + (4 - n) by omega, runFor_add, runFor_done ho]
          rw [e, ho] at h4; cases h4
      have e : m.runFor n = (m.runFor 4).runFor (n - 4) := by rw [← runFor_add]; congr 1; omega
      refine wpAny_bind (wpAny_rule ?_)
      rw [e] at ho hq
      exact drive t (n - 4) _ (by omega) (by omega) ho hq

theorem runToEnd {m : Sre.M} {n : Nat} {Q : Option Sre.M → Shared → Prop} (h : n ≤ 4 * 2 ^ 64) (h0 : n ≠ 0) (r : Option Sre.M)
    (hr : (m.runFor n).outcome = some (match r with | some _ => .matched | none => .failed)) (hm : ∀ x, r = some x → x = m.runFor n) (hq : Q r s) : wpAny MM A (reRunToEnd m) Q E s := by
  unfold reRunToEnd
  refine wpAny_bind (drive (2 ^ 64) n m h h0 (by rw [hr]; rfl) ?_)
  refine wpAny_bind (wpAny_forIn_list _ (fun _ _ s' => s' = s) _ ?_ ?_ _ _ rfl)
  · intro x rest b s' hs
    split
    · exact wpAny_bind (wpAny_rule (wpAny_pure hs))
    · exact wpAny_pure hs
  intro b s' hs
  subst hs

  rw [hr]
  cases r with
  | none => exact wpAny_pure hq
  | some x => have := hm x rfl; subst this; exact wpAny_pure hq
end
end Mine
end
/-! part Rx2 -/
section
set_option maxRecDepth 100000
set_option linter.unusedVariables false
open PySem
namespace Mine
open PySem.Sre PySem.Builtin.Re

theorem exec_AT {m : Sre.M} {b : Bool} (h : ops[m.word 0]? = some .AT) (hb : ({ m with seen := m.seen.add (m.word 0) } : Sre.M).isAt (({ m with seen := m.seen.add (m.word 0) } : Sre.M).word 1) = .ok b) :
    m.exec = (let m' : Sre.M := { m with seen := (m.seen.add (m.word 0)).add (43 + ({ m with seen := m.seen.add (m.word 0) } : Sre.M).word 1) }; if b then { m' with pc := m'.pc + 2 } else m'.say false) := by
  unfold M.exec
  rw [h]
  dsimp only
  rw [hb]
theorem exec_LIT {m : Sre.M} (h : ops[m.word 0]? = some .LITERAL) : m.exec = (let m' : Sre.M := { m with seen := m.seen.add (m.word 0) };
    if m.pos ≥ m.lim then m'.say false else if m.text.getD m.pos 0 == m.code.getD (m.pc + 1) 0 then { m' with pc := m.pc + 2, pos := m.pos + 1 } else m'.say false) := by
  unfold M.exec
  rw [h]
  dsimp only
  have hw : ops[m.code.getD m.pc 0]? = some .LITERAL := h
  by_cases hp : m.pos ≥ m.lim
  · rw [if_pos hp, if_pos hp]
  · rw [if_neg hp, if_neg hp]
    unfold accepts
    rw [hw]
    dsimp only
    cases hb : (m.text.getD m.pos 0 == m.code.getD (m.pc + 1) 0) with
    | true => simp only [itemWidth, hw, if_true]
    | false => rfl
theorem exec_OK {m : Sre.M} (h : ops[m.word 0]? = some .SUCCESS) (hw : m.wholeText = false) (hm : m.mustAdvance = false) : m.exec = ({ m with seen := m.seen.add (m.word 0), handed := m.pos } : Sre.M).say true := by
  unfold M.exec
  rw [h]
  dsimp only
  rw [hw, hm]
  simp
end Mine
end
/-! part Rx3 -/
section
set_option maxRecDepth 100000
set_option linter.unusedVariables false
open PySem
namespace Mine
open PySem.Sre PySem.Builtin.Re

theorem exec_BR {m : Sre.M} (h : ops[m.word 0]? = some .BRANCH) : m.exec = (let m' : Sre.M := { m with seen := m.seen.add (m.word 0) }; m'.alternative (m'.pc + 1) (m'.keep m'.inner.isSome)) := by
  unfold M.exec
  rw [h]
theorem exec_JP {m : Sre.M} (h : ops[m.word 0]? = some .JUMP) : m.exec = ({ m with seen := m.seen.add (m.word 0), pc := m.pc + 1 + m.word 1 } : Sre.M) := by
  unfold M.exec
  rw [h]
  rfl
theorem exec_NOT {m : Sre.M} (h : ops[m.word 0]? = some .ASSERT_NOT) (h0 : m.code.getD (m.pc + 2) 0 = 0) : m.exec = (let m' : Sre.M := { m with seen := m.seen.add (m.word 0) }; m'.attempt { m'.frame .lookNot with kept := m'.keep m'.inner.isSome } (m'.pc + 3) m'.pos false) := by
  unfold M.exec
  rw [h]
  dsimp only
  have e : ({ m with seen := m.seen.add (m.word 0) } : Sre.M).word 2 = 0 := h0
  rw [e]
  simp

noncomputable def bol (text : Array Nat) (s : Nat) : Bool := s == 0 || text.getD (s - 1) 0 == 10
/-- the run of a machine -/
noncomputable def To (k : Nat) (m m' : Sre.M) : Prop := m.runFor k = m'
theorem To.trans {a b : Nat} {x y z : Sre.M} (h : To a x y) (h' : To b y z) : To (a + b) x z := by
  unfold To at *; rw [runFor_add, h, h']
theorem To.one {x y : Sre.M} (ho : x.outcome.isSome = false) (h : x.step = y) : To 1 x y := by
  unfold To; rw [runFor_succ ho, h]; rfl

noncomputable def at1 (text : Array Nat) (lim s pc pos hd : Nat) (f o : Bool) (a : Option Bool) (seen : Seen) : Sre.M :=
  { code := #[14, 4, 0, 1, 1, 6, 1, 16, 46, 1], text, lim, start := s, lastStart := lim, pc := pc, pos := pos, handed := hd, outermost := o, marks := #[], frames := [{ wait := .nextStart, pc := 5, pos := s, outermost := f }], weight := 1, seen := seen, answer := a }

section
variable {text : Array Nat} {lim s pc pos hd : Nat} {f o : Bool} {seen : Seen}
theorem a_at : To 1 (at1 text lim s 5 s hd f o none seen) (if bol text s then at1 text lim s 7 s hd f o none ((seen.add 6).add 44) else at1 text lim s 5 s hd f o (some false) ((seen.add 6).add 44)) := by
  refine To.one rfl ?_
  show (at1 text lim s 5 s hd f o none seen).exec = _
  rw [exec_AT (b := bol text s) rfl rfl]
  cases bol text s <;> rfl
theorem a_lit : To 1 (at1 text lim s 7 s hd f o none seen) (if s < lim ∧ text.getD s 0 = 46 then at1 text lim s 9 (s + 1) hd f o none (seen.add 16) else at1 text lim s 7 s hd f o (some false) (seen.add 16)) := by
  refine To.one rfl ?_
  show (at1 text lim s 7 s hd f o none seen).exec = _
  rw [exec_LIT rfl]
  show (if s ≥ lim then _ else if (text.getD s 0 == 46) = true then _ else _) = _
  by_cases h : s < lim
  · rw [if_neg (by omega)]
    by_cases h2 : text.getD s 0 = 46
    · rw [if_pos (by simpa using h2), if_pos ⟨h, h2⟩]; rfl
    · rw [if_neg (by simpa using h2), if_neg (fun q => h2 q.2)]; rfl
  · rw [if_pos (by omega), if_neg (fun q => h q.1)]; rfl
theorem a_ok : To 1 (at1 text lim s 9 pos hd f o none seen) (at1 text lim s 9 pos pos f o (some true) (seen.add 1)) := by
  refine To.one rfl ?_
  show (at1 text lim s 9 pos hd f o none seen).exec = _
  rw [exec_OK rfl rfl rfl]
  rfl
theorem a_yes : ∃ m', To 2 (at1 text lim s pc pos hd f o (some true) seen) m' ∧ m'.outcome = some .matched ∧ m'.start = s ∧ m'.handed = hd := ⟨_, rfl, rfl, rfl, rfl⟩
theorem a_next (h : s < lim) : To 1 (at1 text lim s pc pos hd f o (some false) seen) (at1 text lim (s + 1) 5 (s + 1) (s + 1) false false none seen) := by
  refine To.one rfl ?_
  show (if s < lim then _ else _) = _
  rw [if_pos h]
  rfl
theorem a_end (h : ¬ s < lim) : ∃ m', To 2 (at1 text lim s pc pos hd f o (some false) seen) m' ∧ m'.outcome = some .failed := by
  have e : (at1 text lim s pc pos hd f o (some false) seen).step = ({ at1 text lim s 5 s hd f f (some false) seen with frames := [], weight := 0 } : Sre.M) := by
    show (if s < lim then _ else _) = _
    rw [if_neg h]
    rfl
  exact ⟨_, To.trans (To.one rfl e) (To.one rfl rfl), rfl⟩
/-- one attempt of the first pattern: it hits -/
noncomputable def hit1 (text : Array Nat) (lim s : Nat) : Prop := bol text s = true ∧ s < lim ∧ text.getD s 0 = 46
theorem a_hit (h : hit1 text lim s) : ∃ m', To 5 (at1 text lim s 5 s hd f o none seen) m' ∧ m'.outcome = some .matched ∧ m'.start = s ∧ m'.handed = s + 1 := by
  have h1 := a_at (text := text) (lim := lim) (s := s) (hd := hd) (f := f) (o := o) (seen := seen)
  rw [if_pos h.1] at h1
  have h2 := a_lit (text := text) (lim := lim) (s := s) (hd := hd) (f := f) (o := o) (seen := (seen.add 6).add 44)
  rw [if_pos h.2] at h2
  have h3 := a_ok (text := text) (lim := lim) (s := s) (pos := s + 1) (hd := hd) (f := f) (o := o) (seen := ((seen.add 6).add 44).add 16)
  obtain ⟨m', h4, e1, e2, e3⟩ := a_yes (text := text) (lim := lim) (s := s) (pc := 9) (pos := s + 1) (hd := s + 1) (f := f) (o := o) (seen := (((seen.add 6).add 44).add 16).add 1)
  exact ⟨m', ((h1.trans h2).trans h3).trans h4, e1, e2, e3⟩
theorem a_miss (h : ¬ hit1 text lim s) : ∃ pc' seen', ∃ k, k ≤ 2 ∧ To k (at1 text lim s 5 s hd f o none seen) (at1 text lim s pc' s hd f o (some false) seen') := by
  have h1 := a_at (text := text) (lim := lim) (s := s) (hd := hd) (f := f) (o := o) (seen := seen)
  by_cases hb : bol text s = true
  · rw [if_pos hb] at h1
    have h2 := a_lit (text := text) (lim := lim) (s := s) (hd := hd) (f := f) (o := o) (seen := (seen.add 6).add 44)
    rw [if_neg (fun q => h ⟨hb, q⟩)] at h2
    exact ⟨_, _, 2, Nat.le_refl _, h1.trans h2⟩
  · rw [if_neg hb] at h1
    exact ⟨_, _, 1, by omega, h1⟩

theorem search1 : ∀ (n s hd : Nat) (f o : Bool) (seen : Seen), lim - s ≤ n → s ≤ lim → ∃ k m', k ≤ 5 * n + 5 ∧ k ≠ 0 ∧ To k (at1 text lim s 5 s hd f o none seen) m' ∧
    ((∃ s', s ≤ s' ∧ hit1 text lim s' ∧ (∀ i, s ≤ i → i < s' → ¬ hit1 text lim i) ∧ m'.outcome = some .matched ∧ m'.start = s' ∧ m'.handed = s' + 1) ∨ ((∀ i, s ≤ i → ¬ hit1 text lim i) ∧ m'.outcome = some .failed)) := by
  intro n
  induction n with
  | zero =>
    intro s hd f o seen hn hs
    have e : ¬ s < lim := by omega
    obtain ⟨pc', seen', k, hk, h1⟩ := a_miss (text := text) (lim := lim) (s := s) (hd := hd) (f := f) (o := o) (seen := seen) (fun q => e q.2.1)
    obtain ⟨m', h2, h3⟩ := a_end (text := text) (lim := lim) (s := s) (pc := pc') (pos := s) (hd := hd) (f := f) (o := o) (seen := seen') e
    exact ⟨_, m', by omega, by omega, h1.trans h2, .inr ⟨fun i hi q => by have := q.2.1; omega, h3⟩⟩
  | succ n ih =>
    intro s hd f o seen hn hs
    by_cases hh : hit1 text lim s
    · obtain ⟨m', h1, e1, e2, e3⟩ := a_hit (hd := hd) (f := f) (o := o) (seen := seen) hh
      exact ⟨5, m', by omega, by omega, h1, .inl ⟨s, Nat.le_refl _, hh, fun i a b => by omega, e1, e2, e3⟩⟩
    · obtain ⟨pc', seen', k, hk, h1⟩ := a_miss (hd := hd) (f := f) (o := o) (seen := seen) hh
      by_cases e : s < lim
      · have h2 := a_next (text := text) (pc := pc') (pos := s) (hd := hd) (f := f) (o := o) (seen := seen') e
        obtain ⟨k', m', b1, b2, h3, h4⟩ := ih (s + 1) (s + 1) false false seen' (by omega) (by omega)
        refine ⟨_, m', ?_, ?_, (h1.trans h2).trans h3, ?_⟩
        · omega
        · omega
        · rcases h4 with ⟨s', a1, a2, a3, a4⟩ | ⟨a1, a2⟩
          · refine .inl ⟨s', by omega, a2, fun i x y => ?_, a4⟩
            by_cases q : i = s
            · subst q; exact hh
            · exact a3 i (by omega) y
          · refine .inr ⟨fun i x => ?_, a2⟩
            by_cases q : i = s
            · subst q; exact hh
            · exact a1 i (by omega)
      · obtain ⟨m', h2, h3⟩ := a_end (text := text) (lim := lim) (s := s) (pc := pc') (pos := s) (hd := hd) (f := f) (o := o) (seen := seen') e
        exact ⟨_, m', by omega, by omega, h1.trans h2, .inr ⟨fun i hi q => e (by have := q.2.1; omega), h3⟩⟩
end
end Mine
end
/-! part Rx4 -/
section
set_option maxRecDepth 100000
set_option linter.unusedVariables false
open PySem
namespace Mine
open PySem.Sre PySem.Builtin.Re

noncomputable def k2 : Array Nat := #[14, 9, 4, 1, 2, 16, 10, 16, 13, 0, 7, 7, 16, 13, 16, 10, 15, 18, 5, 16, 10, 15, 13, 11, 16, 13, 5, 5, 0, 16, 10, 1, 15, 2, 0, 1]
noncomputable def fr0 (s : Nat) (f : Bool) : Sre.Frame := { wait := .nextStart, pc := 10, pos := s, outermost := f }
noncomputable def frB (s alt : Nat) (f : Bool) : Sre.Frame := { wait := .nextBranch, pc := alt, pos := s, outermost := f }
noncomputable def frN (s p : Nat) (f : Bool) : Sre.Frame := { wait := .lookNot, pc := 26, pos := p, outermost := f }
noncomputable def at2 (text : Array Nat) (lim s pc pos hd : Nat) (o : Bool) (fs : List Sre.Frame) (wt : Nat) (a : Option Bool) (seen : Seen) : Sre.M :=
  { code := #[14, 9, 4, 1, 2, 16, 10, 16, 13, 0, 7, 7, 16, 13, 16, 10, 15, 18, 5, 16, 10, 15, 13, 11, 16, 13, 5, 5, 0, 16, 10, 1, 15, 2, 0, 1], text, lim, start := s, lastStart := lim, pc := pc, pos := pos, handed := hd, outermost := o, marks := #[], frames := fs, weight := wt, seen := seen, answer := a }

section
variable {text : Array Nat} {lim s pc pos hd wt : Nat} {f o : Bool} {fs : List Sre.Frame} {seen : Seen}
theorem b_lit {p q c : Nat} (hop : ops[k2.getD p 0]? = some .LITERAL) (hc : k2.getD (p + 1) 0 = c) : To 1 (at2 text lim s p q hd o fs wt none seen)
    (if q < lim ∧ text.getD q 0 = c then at2 text lim s (p + 2) (q + 1) hd o fs wt none (seen.add (k2.getD p 0)) else at2 text lim s p q hd o fs wt (some false) (seen.add (k2.getD p 0))) := by
  have hp : p < 36 := by
    rcases Nat.lt_or_ge p 36 with h | h
    · exact h
    · exfalso
      have : k2.getD p 0 = 0 := by unfold k2; simp [Array.getD]; omega
      rw [this] at hop; cases hop
  refine To.one rfl ?_
  have e : (at2 text lim s p q hd o fs wt none seen).step = (at2 text lim s p q hd o fs wt none seen).exec := by
    show (if p < 36 then _ else _) = _
    rw [if_pos hp]
  rw [e, exec_LIT (m := at2 text lim s p q hd o fs wt none seen) hop]
  show (if q ≥ lim then _ else if (text.getD q 0 == k2.getD (p + 1) 0) = true then _ else _) = _
  rw [hc]
  by_cases h : q < lim
  · rw [if_neg (by omega)]
    by_cases h2 : text.getD q 0 = c
    · rw [if_pos (by simpa using h2), if_pos ⟨h, h2⟩]; rfl
    · rw [if_neg (by simpa using h2), if_neg (fun x => h2 x.2)]; rfl
  · rw [if_pos (by omega), if_neg (fun x => h x.1)]; rfl
theorem b_br : To 1 (at2 text lim s 10 s hd f [fr0 s f] 1 none seen) (at2 text lim s 12 s s f [frB s 11 f, fr0 s f] 2 none (seen.add 7)) := by
  refine To.one rfl ?_
  show (at2 text lim s 10 s hd f [fr0 s f] 1 none seen).exec = _
  rw [exec_BR rfl]
  rfl
theorem b_jp1 : To 1 (at2 text lim s 16 pos hd o fs wt none seen) (at2 text lim s 35 pos hd o fs wt none (seen.add 15)) := by
  refine To.one rfl ?_
  show (at2 text lim s 16 pos hd o fs wt none seen).exec = _
  rw [exec_JP rfl]; rfl
theorem b_jp2 : To 1 (at2 text lim s 21 pos hd o fs wt none seen) (at2 text lim s 35 pos hd o fs wt none (seen.add 15)) := by
  refine To.one rfl ?_
  show (at2 text lim s 21 pos hd o fs wt none seen).exec = _
  rw [exec_JP rfl]; rfl
theorem b_jp3 : To 1 (at2 text lim s 32 pos hd o fs wt none seen) (at2 text lim s 35 pos hd o fs wt none (seen.add 15)) := by
  refine To.one rfl ?_
  show (at2 text lim s 32 pos hd o fs wt none seen).exec = _
  rw [exec_JP rfl]; rfl
theorem b_ok : To 1 (at2 text lim s 35 pos hd o fs wt none seen) (at2 text lim s 35 pos pos o fs wt (some true) (seen.add 1)) := by
  refine To.one rfl ?_
  show (at2 text lim s 35 pos hd o fs wt none seen).exec = _
  rw [exec_OK rfl rfl rfl]; rfl
theorem b_ok31 : To 1 (at2 text lim s 31 pos hd o fs wt none seen) (at2 text lim s 31 pos pos o fs wt (some true) (seen.add 1)) := by
  refine To.one rfl ?_
  show (at2 text lim s 31 pos hd o fs wt none seen).exec = _
  rw [exec_OK rfl rfl rfl]; rfl
theorem b_no1 : To 1 (at2 text lim s pc pos hd o [frB s 11 f, fr0 s f] 2 (some false) seen) (at2 text lim s 19 s s f [frB s 18 f, fr0 s f] 2 none seen) := To.one rfl rfl
theorem b_no2 : To 1 (at2 text lim s pc pos hd o [frB s 18 f, fr0 s f] 2 (some false) seen) (at2 text lim s 24 s s f [frB s 23 f, fr0 s f] 2 none seen) := To.one rfl rfl
theorem b_no3 : To 1 (at2 text lim s pc pos hd o [frB s 23 f, fr0 s f] 2 (some false) seen) (at2 text lim s 23 s hd f [fr0 s f] 1 (some false) seen) := To.one rfl rfl
theorem b_not : To 1 (at2 text lim s 26 pos hd f [frB s 23 f, fr0 s f] 2 none seen) (at2 text lim s 29 pos pos false [frN s pos f, frB s 23 f, fr0 s f] 3 none (seen.add 5)) := by
  refine To.one rfl ?_
  show (at2 text lim s 26 pos hd f [frB s 23 f, fr0 s f] 2 none seen).exec = _
  rw [exec_NOT rfl rfl]; rfl
theorem b_not_no {p : Nat} : To 1 (at2 text lim s pc pos hd o [frN s p f, frB s 23 f, fr0 s f] 3 (some false) seen) (at2 text lim s 32 p hd f [frB s 23 f, fr0 s f] 2 none seen) := To.one rfl rfl
theorem b_yes {alt : Nat} : ∃ m', To 3 (at2 text lim s pc pos hd o [frB s alt f, fr0 s f] 2 (some true) seen) m' ∧ m'.outcome = some .matched ∧ m'.start = s ∧ m'.handed = hd := ⟨_, rfl, rfl, rfl, rfl⟩

/-- CR LF -/
theorem b_crlf (h1 : s + 1 < lim) (h2 : text.getD s 0 = 13) (h3 : text.getD (s + 1) 0 = 10) : ∃ k m', k ≤ 9 ∧ k ≠ 0 ∧ To k (at2 text lim s 10 s hd f [fr0 s f] 1 none seen) m' ∧ m'.outcome = some .matched ∧ m'.start = s ∧ m'.handed = s + 2 := by
  have t1 := b_br (text := text) (lim := lim) (s := s) (hd := hd) (f := f) (seen := seen)
  have t2 := b_lit (text := text) (lim := lim) (s := s) (hd := s) (o := f) (fs := [frB s 11 f, fr0 s f]) (wt := 2) (seen := seen.add 7) (p := 12) (q := s) (c := 13) rfl rfl
  rw [if_pos ⟨by omega, h2⟩] at t2
  have t3 := b_lit (text := text) (lim := lim) (s := s) (hd := s) (o := f) (fs := [frB s 11 f, fr0 s f]) (wt := 2) (seen := (seen.add 7).add (k2.getD 12 0)) (p := 14) (q := s + 1) (c := 10) rfl rfl
  rw [if_pos ⟨h1, h3⟩] at t3
  have t4 := b_jp1 (text := text) (lim := lim) (s := s) (pos := s + 1 + 1) (hd := s) (o := f) (fs := [frB s 11 f, fr0 s f]) (wt := 2) (seen := ((seen.add 7).add (k2.getD 12 0)).add (k2.getD 14 0))
  have t5 := b_ok (text := text) (lim := lim) (s := s) (pos := s + 1 + 1) (hd := s) (o := f) (fs := [frB s 11 f, fr0 s f]) (wt := 2) (seen := (((seen.add 7).add (k2.getD 12 0)).add (k2.getD 14 0)).add 15)
  obtain ⟨m', t6, e1, e2, e3⟩ := b_yes (text := text) (lim := lim) (s := s) (pc := 35) (pos := s + 1 + 1) (hd := s + 1 + 1) (o := f) (f := f) (alt := 11) (seen := ((((seen.add 7).add (k2.getD 12 0)).add (k2.getD 14 0)).add 15).add 1)
  exact ⟨_, m', by omega, by omega, ((((t1.trans t2).trans t3).trans t4).trans t5).trans t6, e1, e2, e3⟩
/-- LF -/
theorem b_lf (h1 : s < lim) (h2 : text.getD s 0 = 10) : ∃ k m', k ≤ 9 ∧ k ≠ 0 ∧ To k (at2 text lim s 10 s hd f [fr0 s f] 1 none seen) m' ∧ m'.outcome = some .matched ∧ m'.start = s ∧ m'.handed = s + 1 := by
  have t1 := b_br (text := text) (lim := lim) (s := s) (hd := hd) (f := f) (seen := seen)
  have t2 := b_lit (text := text) (lim := lim) (s := s) (hd := s) (o := f) (fs := [frB s 11 f, fr0 s f]) (wt := 2) (seen := seen.add 7) (p := 12) (q := s) (c := 13) rfl rfl
  rw [if_neg (fun x => by rw [h2] at x; exact absurd x.2 (by decide))] at t2
  have t3 := b_no1 (text := text) (lim := lim) (s := s) (pc := 12) (pos := s) (hd := s) (o := f) (f := f) (seen := (seen.add 7).add (k2.getD 12 0))
  have t4 := b_lit (text := text) (lim := lim) (s := s) (hd := s) (o := f) (fs := [frB s 18 f, fr0 s f]) (wt := 2) (seen := (seen.add 7).add (k2.getD 12 0)) (p := 19) (q := s) (c := 10) rfl rfl
  rw [if_pos ⟨h1, h2⟩] at t4
  have t5 := b_jp2 (text := text) (lim := lim) (s := s) (pos := s + 1) (hd := s) (o := f) (fs := [frB s 18 f, fr0 s f]) (wt := 2) (seen := ((seen.add 7).add (k2.getD 12 0)).add (k2.getD 19 0))
  have t6 := b_ok (text := text) (lim := lim) (s := s) (pos := s + 1) (hd := s) (o := f) (fs := [frB s 18 f, fr0 s f]) (wt := 2) (seen := (((seen.add 7).add (k2.getD 12 0)).add (k2.getD 19 0)).add 15)
  obtain ⟨m', t7, e1, e2, e3⟩ := b_yes (text := text) (lim := lim) (s := s) (pc := 35) (pos := s + 1) (hd := s + 1) (o := f) (f := f) (alt := 18) (seen := ((((seen.add 7).add (k2.getD 12 0)).add (k2.getD 19 0)).add 15).add 1)
  exact ⟨_, m', by omega, by omega, (((((t1.trans t2).trans t3).trans t4).trans t5).trans t6).trans t7, e1, e2, e3⟩
/-- CR alone -/
theorem b_cr (h1 : s < lim) (h2 : text.getD s 0 = 13) (h3 : ¬ (s + 1 < lim ∧ text.getD (s + 1) 0 = 10)) : ∃ k m', k ≤ 16 ∧ k ≠ 0 ∧ To k (at2 text lim s 10 s hd f [fr0 s f] 1 none seen) m' ∧ m'.outcome = some .matched ∧ m'.start = s ∧ m'.handed = s + 1 := by
  have t1 := b_br (text := text) (lim := lim) (s := s) (hd := hd) (f := f) (seen := seen)
  have t2 := b_lit (text := text) (lim := lim) (s := s) (hd := s) (o := f) (fs := [frB s 11 f, fr0 s f]) (wt := 2) (seen := seen.add 7) (p := 12) (q := s) (c := 13) rfl rfl
  rw [if_pos ⟨h1, h2⟩] at t2
  generalize (seen.add 7).add (k2.getD 12 0) = seen2 at t2
  have t3 := b_lit (text := text) (lim := lim) (s := s) (hd := s) (o := f) (fs := [frB s 11 f, fr0 s f]) (wt := 2) (seen := seen2) (p := 14) (q := s + 1) (c := 10) rfl rfl
  rw [if_neg h3] at t3
  generalize seen2.add (k2.getD 14 0) = seen3 at t3
  have t4 := b_no1 (text := text) (lim := lim) (s := s) (pc := 14) (pos := s + 1) (hd := s) (o := f) (f := f) (seen := seen3)
  have t5 := b_lit (text := text) (lim := lim) (s := s) (hd := s) (o := f) (fs := [frB s 18 f, fr0 s f]) (wt := 2) (seen := seen3) (p := 19) (q := s) (c := 10) rfl rfl
  rw [if_neg (fun x => by rw [h2] at x; exact absurd x.2 (by decide))] at t5
  generalize seen3.add (k2.getD 19 0) = seen4 at t5
  have t6 := b_no2 (text := text) (lim := lim) (s := s) (pc := 19) (pos := s) (hd := s) (o := f) (f := f) (seen := seen4)
  have t7 := b_lit (text := text) (lim := lim) (s := s) (hd := s) (o := f) (fs := [frB s 23 f, fr0 s f]) (wt := 2) (seen := seen4) (p := 24) (q := s) (c := 13) rfl rfl
  rw [if_pos ⟨h1, h2⟩] at t7
  generalize seen4.add (k2.getD 24 0) = seen5 at t7
  have t8 := b_not (text := text) (lim := lim) (s := s) (pos := s + 1) (hd := s) (f := f) (seen := seen5)
  have t9 := b_lit (text := text) (lim := lim) (s := s) (hd := s + 1) (o := false) (fs := [frN s (s + 1) f, frB s 23 f, fr0 s f]) (wt := 3) (seen := seen5.add 5) (p := 29) (q := s + 1) (c := 10) rfl rfl
  rw [if_neg h3] at t9
  generalize (seen5.add 5).add (k2.getD 29 0) = seen6 at t9
  have t10 := b_not_no (text := text) (lim := lim) (s := s) (pc := 29) (pos := s + 1) (hd := s + 1) (o := false) (f := f) (p := s + 1) (seen := seen6)
  have t11 := b_jp3 (text := text) (lim := lim) (s := s) (pos := s + 1) (hd := s + 1) (o := f) (fs := [frB s 23 f, fr0 s f]) (wt := 2) (seen := seen6)
  have t12 := b_ok (text := text) (lim := lim) (s := s) (pos := s + 1) (hd := s + 1) (o := f) (fs := [frB s 23 f, fr0 s f]) (wt := 2) (seen := seen6.add 15)
  obtain ⟨m', t13, e1, e2, e3⟩ := b_yes (text := text) (lim := lim) (s := s) (pc := 35) (pos := s + 1) (hd := s + 1) (o := f) (f := f) (alt := 23) (seen := (seen6.add 15).add 1)
  exact ⟨_, m', by omega, by omega, (((((((((((t1.trans t2).trans t3).trans t4).trans t5).trans t6).trans t7).trans t8).trans t9).trans t10).trans t11).trans t12).trans t13, e1, e2, e3⟩
end
end Mine
end
/-! part Rx5 -/
section
set_option maxRecDepth 100000
set_option linter.unusedVariables false
open PySem
namespace Mine
open PySem.Sre PySem.Builtin.Re

/-- where a match that begins at s ends -/
noncomputable def hitA (text : Array Nat) (s : Nat) : Option Nat := if (s == 0 || text.getD (s - 1) 0 == 10) && (decide (s < text.size) && text.getD s 0 == 46) then some (s + 1) else none
noncomputable def hitB (text : Array Nat) (s : Nat) : Option Nat :=
  if s < text.size then (if text.getD s 0 = 13 then (if s + 1 < text.size ∧ text.getD (s + 1) 0 = 10 then some (s + 2) else some (s + 1)) else if text.getD s 0 = 10 then some (s + 1) else none) else none
/-- the first match from a place on -/
noncomputable def First (hit : Nat → Option Nat) (a : Nat) (r : Option (Nat × Nat)) : Prop := match r with
  | some (s, e) => a ≤ s ∧ hit s = some e ∧ ∀ i, a ≤ i → i < s → hit i = none
  | none => ∀ i, a ≤ i → hit i = none
noncomputable def ans (r : Option (Nat × Nat)) (m : Sre.M) : Prop := match r with
  | some (s, e) => m.outcome = some .matched ∧ m.start = s ∧ m.handed = e
  | none => m.outcome = some .failed

theorem hitA_of {text : Array Nat} {s : Nat} : (hit1 text text.size s → hitA text s = some (s + 1)) ∧ (¬ hit1 text text.size s → hitA text s = none) := by
  unfold hit1 hitA bol
  constructor
  · rintro ⟨a, b, c⟩; rw [a, c]; simp [b]
  · intro h
    rw [if_neg]
    intro q
    simp only [Bool.and_eq_true, decide_eq_true_eq, beq_iff_eq] at q
    exact h ⟨q.1, q.2.1, q.2.2⟩

noncomputable def c1 : Array Nat := #[14, 4, 0, 1, 1, 6, 1, 16, 46, 1]
theorem found1 (text : Array Nat) (a : Nat) (ha : a ≤ text.size) : ∃ k m' r, k ≤ 5 * text.size + 5 ∧ k ≠ 0 ∧ (Sre.forSearch c1 text 0 a text.size false).runFor k = m' ∧ First (hitA text) a r ∧ ans r m' := by
  by_cases h : a < text.size
  · have e : Sre.forSearch c1 text 0 a text.size false = at1 text text.size a 5 a a true true none (({} : Seen).add 14) := by
      show (if (decide (a > text.size) || decide (text.size - a < 1)) = true then _ else _) = _
      rw [if_neg (by simp; omega)]
      rfl
    rw [e]
    obtain ⟨k, m', b1, b2, b3, b4⟩ := search1 (text := text) (lim := text.size) (text.size - a) a a true true (({} : Seen).add 14) (Nat.le_refl _) ha
    rcases b4 with ⟨s', x1, x2, x3, x4, x5, x6⟩ | ⟨x1, x2⟩
    · exact ⟨k, m', some (s', s' + 1), by omega, b2, b3, ⟨x1, hitA_of.1 x2, fun i p q => hitA_of.2 (x3 i p q)⟩, x4, x5, x6⟩
    · exact ⟨k, m', none, by omega, b2, b3, fun i p => hitA_of.2 (x1 i p), x2⟩
  · refine ⟨1, _, none, by omega, by omega, rfl, fun i hi => ?_, ?_⟩
    · refine hitA_of.2 fun q => ?_
      have := q.2.1; omega
    · show ((Sre.forSearch c1 text 0 a text.size false).runFor 1).outcome = _
      have e : Sre.forSearch c1 text 0 a text.size false = ({ code := c1, text := text, lim := text.size, start := a, pc := 5, pos := a, handed := a, marks := #[], seen := ({} : Seen).add 14, answer := some false } : Sre.M) := by
        show (if (decide (a > text.size) || decide (text.size - a < 1)) = true then _ else _) = _
        rw [if_pos (by simp; omega)]
        rfl
      rw [e]; rfl

/-- the first set of the second pattern -/
theorem inSet2 (c : Nat) (seen : Seen) : ∃ seen', Sre.inSet k2 c 36 5 true seen = .ok (c == 10 || c == 13, seen') := by
  by_cases h : c = 10
  · subst h; exact ⟨_, rfl⟩
  · by_cases h' : c = 13
    · subst h'; exact ⟨_, rfl⟩
    · have e1 : (c == 10) = false := by simpa using h
      have e2 : (c == 13) = false := by simpa using h'
      refine ⟨((seen.add 16).add 16).add 0, ?_⟩
      show (if (c == 10) = true then _ else (if (c == 13) = true then _ else _)) = _
      rw [e1, e2]
      rfl
noncomputable def nlc (c : Nat) : Bool := c == 10 || c == 13
theorem admit (m : Sre.M) (hc : m.code = k2) : ∀ (n s : Nat) (seen : Seen), m.lim - s < n →
    ∃ seen' r, Sre.M.admitted m n s seen = .ok (r, seen') ∧ (match r with | some s' => s ≤ s' ∧ s' < m.lim ∧ nlc (m.text.getD s' 0) = true ∧ ∀ i, s ≤ i → i < s' → nlc (m.text.getD i 0) = false | none => ∀ i, s ≤ i → i < m.lim → nlc (m.text.getD i 0) = false)
  | 0, s, seen, h => by omega
  | n + 1, s, seen, h => by
    unfold Sre.M.admitted
    by_cases hs : s ≥ m.lim
    · rw [if_pos hs]; exact ⟨seen, none, rfl, fun i a b => by omega⟩
    · rw [if_neg hs, hc]
      obtain ⟨seen', e⟩ := inSet2 (m.text.getD s 0) seen
      rw [show k2.size = 36 from rfl, e]
      cases hb : (m.text.getD s 0 == 10 || m.text.getD s 0 == 13) with
      | true => exact ⟨seen', some s, rfl, Nat.le_refl _, by omega, hb, fun i a b => by omega⟩
      | false =>
        obtain ⟨seen'', r, e1, e2⟩ := admit m hc n (s + 1) seen' (by omega)
        refine ⟨seen'', r, e1, ?_⟩
        cases r with
        | none =>
          intro i a b
          by_cases q : i = s
          · subst q; exact hb
          · exact e2 i (by omega) b
        | some s' =>
          refine ⟨by omega, e2.2.1, e2.2.2.1, fun i a b => ?_⟩
          by_cases q : i = s
          · subst q; exact hb
          · exact e2.2.2.2 i (by omega) b
theorem hitB_none {text : Array Nat} {i : Nat} (h : i < text.size → nlc (text.getD i 0) = false) : hitB text i = none := by
  unfold hitB
  by_cases q : i < text.size
  · rw [if_pos q]
    have := h q
    unfold nlc at this
    simp only [Bool.or_eq_false_iff, beq_eq_false_iff_ne] at this
    rw [if_neg this.2, if_neg this.1]
  · rw [if_neg q]

theorem found2 (text : Array Nat) (a : Nat) (ha : a ≤ text.size) : ∃ k m' r, k ≤ 5 * text.size + 16 ∧ k ≠ 0 ∧ (Sre.forSearch k2 text 0 a text.size false).runFor k = m' ∧ First (hitB text) a r ∧ ans r m' := by
  by_cases h : a < text.size
  · obtain ⟨seen', r, e1, e2⟩ := admit ({ code := k2, text := text, lim := text.size, start := a, lastStart := text.size, pc := 10, pos := a, handed := a, marks := #[], seen := ({} : Seen).add 14 } : Sre.M) rfl (text.size + 1 - a) a (({} : Seen).add 14) (by show text.size - a < _; omega)
    have e : Sre.forSearch k2 text 0 a text.size false = (match (Except.ok (r, seen') : Except String (Option Nat × Seen)) with
        | .ok (some s, seen) => ({ code := k2, text := text, lim := text.size, start := a, lastStart := text.size, pc := 10, pos := a, handed := a, marks := #[], mustAdvance := false, seen := seen } : Sre.M).attemptAt s true
        | .ok (none, seen) => ({ code := k2, text := text, lim := text.size, start := a, lastStart := text.size, pc := 10, pos := a, handed := a, marks := #[], seen := seen } : Sre.M).say false
        | .error why => ({ code := k2, text := text, lim := text.size, start := a, lastStart := text.size, pc := 10, pos := a, handed := a, marks := #[], seen := ({} : Seen).add 14 } : Sre.M).stick why) := by
      rw [← e1]
      show (if (decide (a > text.size) || decide (text.size - a < 1)) = true then _ else _) = _
      rw [if_neg (by simp; omega)]
      rfl
    rw [e]
    cases r with
    | none =>
      refine ⟨1, _, none, by omega, by omega, rfl, fun i hi => hitB_none fun q => e2 i hi q, rfl⟩
    | some s' =>
      obtain ⟨q1, q2, q3, q4⟩ := e2
      have q2' : s' < text.size := q2
      have bef : ∀ i, a ≤ i → i < s' → hitB text i = none := fun i p x => hitB_none fun _ => q4 i p x
      have e0 : ({ code := k2, text := text, lim := text.size, start := a, lastStart := text.size, pc := 10, pos := a, handed := a, marks := #[], mustAdvance := false, seen := seen' } : Sre.M).attemptAt s' true = at2 text text.size s' 10 s' s' true [fr0 s' true] 1 none seen' := rfl
      show ∃ k m' r, k ≤ 5 * text.size + 16 ∧ k ≠ 0 ∧ (({ code := k2, text := text, lim := text.size, start := a, lastStart := text.size, pc := 10, pos := a, handed := a, marks := #[], mustAdvance := false, seen := seen' } : Sre.M).attemptAt s' true).runFor k = m' ∧ First (hitB text) a r ∧ ans r m'
      rw [e0]
      by_cases c13 : text.getD s' 0 = 13
      · by_cases c10 : s' + 1 < text.size ∧ text.getD (s' + 1) 0 = 10
        · obtain ⟨k, m', b1, b2, b3, b4, b5, b6⟩ := b_crlf (text := text) (lim := text.size) (s := s') (hd := s') (f := true) (seen := seen') c10.1 c13 c10.2
          exact ⟨k, m', some (s', s' + 2), by omega, b2, b3, ⟨q1, by unfold hitB; rw [if_pos q2', if_pos c13, if_pos c10], bef⟩, b4, b5, b6⟩
        · obtain ⟨k, m', b1, b2, b3, b4, b5, b6⟩ := b_cr (text := text) (lim := text.size) (s := s') (hd := s') (f := true) (seen := seen') q2' c13 c10
          exact ⟨k, m', some (s', s' + 1), by omega, b2, b3, ⟨q1, by unfold hitB; rw [if_pos q2', if_pos c13, if_neg c10], bef⟩, b4, b5, b6⟩
      · have c10 : text.getD s' 0 = 10 := by
          have : nlc (text.getD s' 0) = true := q3
          unfold nlc at this
          simp only [Bool.or_eq_true, beq_iff_eq] at this
          rcases this with x | x
          · exact x
          · exact absurd x c13
        obtain ⟨k, m', b1, b2, b3, b4, b5, b6⟩ := b_lf (text := text) (lim := text.size) (s := s') (hd := s') (f := true) (seen := seen') q2' c10
        exact ⟨k, m', some (s', s' + 1), by omega, b2, b3, ⟨q1, by unfold hitB; rw [if_pos q2', if_neg c13, if_pos c10], bef⟩, b4, b5, b6⟩
  · refine ⟨1, _, none, by omega, by omega, rfl, fun i hi => hitB_none fun q => by omega, ?_⟩
    show ((Sre.forSearch k2 text 0 a text.size false).runFor 1).outcome = _
    have e : Sre.forSearch k2 text 0 a text.size false = ({ code := k2, text := text, lim := text.size, start := a, pc := 10, pos := a, handed := a, marks := #[], seen := ({} : Seen).add 14, answer := some false } : Sre.M) := by
      show (if (decide (a > text.size) || decide (text.size - a < 1)) = true then _ else _) = _
      rw [if_pos (by simp; omega)]
      rfl
    rw [e]; rfl
end Mine
end
/-! part Rx6 -/
section
set_option maxRecDepth 100000
set_option linter.unusedVariables false
open PySem
namespace Mine
open PySem.Builtin.Re PyProof.Rows

/-- what 'sub' makes of a text from a place on -/
noncomputable def subGo (hit : Nat → Option Nat) (repl : List Nat) (text : Array Nat) : Nat → Nat → List Nat
  | 0, _ => []
  | n + 1, p => if p < text.size then (match hit p with | some e => repl ++ subGo hit repl text n e | none => text.getD p 0 :: subGo hit repl text n (p + 1)) else []
section
variable {hit : Nat → Option Nat} {repl : List Nat} {text : Array Nat}
theorem subGo_fuel (hp : ∀ s e, hit s = some e → s < e) : ∀ (n m p : Nat), text.size - p ≤ n → text.size - p ≤ m → subGo hit repl text n p = subGo hit repl text m p
  | 0, 0, _, _, _ => rfl
  | 0, m + 1, p, h, _ => by unfold subGo; rw [if_neg (by omega)]
  | n + 1, 0, p, _, h => by unfold subGo; rw [if_neg (by omega)]
  | n + 1, m + 1, p, h1, h2 => by
    unfold subGo
    by_cases q : p < text.size
    · rw [if_pos q, if_pos q]
      cases e : hit p with
      | some e' => dsimp only; rw [subGo_fuel hp n m e' (by have := hp _ _ e; omega) (by have := hp _ _ e; omega)]
      | none => dsimp only; rw [subGo_fuel hp n m (p + 1) (by omega) (by omega)]
    · rw [if_neg q, if_neg q]
noncomputable def subFrom (hit : Nat → Option Nat) (repl : List Nat) (text : Array Nat) (p : Nat) : List Nat := subGo hit repl text (text.size - p) p
theorem subFrom_end {p : Nat} (h : text.size ≤ p) : subFrom hit repl text p = [] := by
  unfold subFrom
  rw [show text.size - p = 0 by omega]; rfl
theorem subFrom_hit (hp : ∀ s e, hit s = some e → s < e) {p e : Nat} (h : p < text.size) (hh : hit p = some e) : subFrom hit repl text p = repl ++ subFrom hit repl text e := by
  unfold subFrom
  rw [show text.size - p = (text.size - p - 1) + 1 by omega, subGo, if_pos h, hh]
  dsimp only
  rw [subGo_fuel hp (text.size - p - 1) (text.size - e) e (by have := hp _ _ hh; omega) (Nat.le_refl _)]
theorem subFrom_no (hp : ∀ s e, hit s = some e → s < e) {p : Nat} (h : p < text.size) (hh : hit p = none) : subFrom hit repl text p = text.getD p 0 :: subFrom hit repl text (p + 1) := by
  unfold subFrom
  rw [show text.size - p = (text.size - p - 1) + 1 by omega, subGo, if_pos h, hh]
  dsimp only
  rw [subGo_fuel hp (text.size - p - 1) (text.size - (p + 1)) (p + 1) (by omega) (Nat.le_refl _)]
theorem extract_cons {a b : Nat} (h : a < b) (hb : b ≤ text.size) : (text.extract a b).toList = text.getD a 0 :: (text.extract (a + 1) b).toList := by
  have ha : a < text.toList.length := by rw [Array.length_toList]; omega
  rw [Array.toList_extract, Array.toList_extract, List.extract_eq_take_drop, List.extract_eq_take_drop, List.drop_eq_getElem_cons ha, show b - a = (b - (a + 1)) + 1 by omega, List.take_succ_cons]
  congr 1
  have ha' : a < text.size := by omega
  simp [Array.getD, ha']
theorem subFrom_skip (hp : ∀ s e, hit s = some e → s < e) : ∀ (n a b : Nat), b - a = n → a ≤ b → b ≤ text.size → (∀ i, a ≤ i → i < b → hit i = none) →
    subFrom hit repl text a = (text.extract a b).toList ++ subFrom hit repl text b
  | 0, a, b, e, h1, h2, _ => by
    obtain rfl : a = b := by omega
    simp
  | n + 1, a, b, e, h1, h2, h3 => by
    rw [subFrom_no hp (by omega) (h3 a (by omega) (by omega)), subFrom_skip hp n (a + 1) b (by omega) (by omega) h2 (fun i p q => h3 i (by omega) q), extract_cons (a := a) (b := b) (by omega) h2]
    rfl
theorem subFrom_len (hp : ∀ s e, hit s = some e → s < e) : ∀ (n p : Nat), (subGo hit repl text n p).length ≤ n * (repl.length + 1)
  | 0, _ => by simp [subGo]
  | n + 1, p => by
    unfold subGo
    split
    · split
      · rename_i e _
        have := subFrom_len hp n e
        rw [List.length_append, Nat.succ_mul]; omega
      · have := subFrom_len hp n (p + 1)
        rw [List.length_cons, Nat.succ_mul]; omega
    · simp
end

/-- a compiled pattern lies on the heap -/
structure PatAt (h : Heap) (P : Addr) (code : Array Nat) : Prop where
  at_ : ∃ oP vs T oT items n, h.get? P = some oP ∧ oP.data = .fields vs ∧ vs.getD 5 .none = .ref T ∧ reRawNat (vs.getD 6 .none) = 0 ∧ reRawNat (vs.getD 2 .none) = 0 ∧
    h.get? T = some oT ∧ oT.data = .seq items n ∧ (items.map reRawOf).map (·.toNat) = code
theorem PatAt.but {h h' : Heap} {P l : Addr} {code : Array Nat} (x : PatAt h P code) (k : ∀ b o, b ≠ l → h.get? b = some o → h'.get? b = some o) (hl : ∀ o, h.get? l = some o → ∃ xs n, o.data = .seq xs n ∧ (xs.map reRawOf).map (·.toNat) ≠ code) : PatAt h' P code := by
  obtain ⟨oP, vs, T, oT, items, n, a, b, c, d, e, f, g, i⟩ := x.at_
  have h1 : P ≠ l := by
    rintro rfl
    obtain ⟨xs, n, q, _⟩ := hl _ a
    rw [q] at b; cases b
  have h2 : T ≠ l := by
    rintro rfl
    obtain ⟨xs, n', q, q'⟩ := hl _ f
    rw [q] at g; cases g; exact q' i
  exact ⟨oP, vs, T, oT, items, n, k _ _ h1 a, b, c, d, e, k _ _ h2 f, g, i⟩

section
variable {MM : Model} {A : Around} {E : Value → Shared → Prop} {s : Shared}
theorem wholeTarget {P : Addr} {code : Array Nat} {x : Str} {t : Tok} {Q : ReTarget → Shared → Prop} (hP : PatAt s.heap P code)
    (h : Q { pattern := .ref P, string := .str x t, code := code, text := x.cps, kind := 0, groups := 0, pos := 0, lim := x.cps.size } s) : wpAny MM A (reWholeTarget (.ref P) (.str x t)) Q E s := by
  obtain ⟨oP, vs, T, oT, items, n, a, b, c, d, e, f, g, i⟩ := hP.at_
  unfold reWholeTarget
  refine wpAny_bind (wpAny_fieldsOf a b ?_)
  refine wpAny_bind (wpAny_bind (wpAny_pure ?_))
  refine wpAny_pure ?_
  dsimp only
  rw [d]
  refine wpAny_bind (wpAny_pure ?_)
  refine wpAny_bind ?_
  rw [c]
  unfold reRawItems
  refine wpAny_bind (wpAny_seqItems f g ?_)
  refine wpAny_pure (wpAny_pure ?_)
  dsimp only [Option.getD]
  rw [i, e]
  exact h
end
end Mine
end
/-! part Rx7 -/
section
set_option maxRecDepth 100000
set_option linter.unusedVariables false
open PySem
namespace Mine
open PySem.Builtin.Re PyProof.Rows PySem.Builtin

theorem entry_subloop : entryFor table "re.Pattern.sub.loop" = some Builtin.«re.Pattern.sub.loop» := entryFor_of_tree (by kernel_rfl)
theorem entry_sub : entryFor table "re.Pattern.sub" = some Builtin.«re.Pattern.sub» := entryFor_of_tree (by kernel_rfl)

noncomputable abbrev lst (xs : Array Value) (c : Nat) : Obj := { cls := .type "list", data := .seq xs c }
/-- all but one object stay -/
noncomputable def But (l : Addr) (h h' : Heap) : Prop := ∀ b o, b ≠ l → h.get? b = some o → h'.get? b = some o
theorem But.refl {l : Addr} {h : Heap} : But l h h := fun _ _ _ e => e
theorem But.trans {l : Addr} {h h' h'' : Heap} (x : But l h h') (y : But l h' h'') : But l h h'' := fun b o n e => y b o n (x b o n e)

section
variable {prog : Program} {w : World} {A : Around} {E : Value → Shared → Prop} {s : Shared}
theorem push_list {MM : Model} {l : Addr} {xs : Array Value} {c : Nat} {v : Value} {Q : Unit → Shared → Prop} (hl : s.heap.get? l = some (lst xs c)) (hz : xs.size < 2 ^ 24)
    (h : ∀ h' c', But l s.heap h' → h'.get? l = some (lst (xs.push v) c') → Q () { s with heap := h' }) : wpAny MM A (updateSeq l (·.push v)) Q E s := by
  refine wpAny_updateSeq hl rfl (h _ (c + 1) (fun b o n e => (Heap.get?_update_ne _ _ _ _ n).trans e) ?_) (by rw [sizeLine_eq]; omega) (by rw [sizeLine_eq, Array.size_push]; omega)
  rw [Heap.get?_update_self _ hl rfl]
  simp [Obj.mapSeq]
theorem slice_text {MM : Model} {text : Array Nat} {a b : Nat} {Q : Value → Shared → Prop} (hz : text.size ≤ 2 ^ 24) (h : ∀ t, Q (.str ⟨text.extract a b⟩ t) { s with toks := s.toks + 1 }) : wpAny MM A (reSlice text 0 a b) Q E s := by
  unfold reSlice
  exact wpAny_mkStr (h _) (by rw [sizeLine_eq]; show (text.extract a b).size ≤ _; simp; omega)

theorem strsAre_push {xs : Array Value} {ys : List Str} (h : StrsAre xs.toList ys) (y : Str) (t : Tok) : StrsAre (xs.push (.str y t)).toList (ys ++ [y]) := by
  rw [Array.toList_push]
  generalize xs.toList = l at h
  induction h with
  | nil => exact .cons _ _ .nil
  | cons z u _ ih => exact .cons _ _ ih

noncomputable def cat (ys : List Str) : List Nat := ys.flatMap fun y => y.cps.toList
theorem cat_snoc (ys : List Str) (y : Str) : cat (ys ++ [y]) = cat ys ++ y.cps.toList := by simp [cat]
theorem glue_fold : ∀ (r : List Str) (acc : Array Nat), (r.foldl (fun acc p => acc ++ (#[] : Array Nat) ++ p.cps) acc).toList = acc.toList ++ cat r
  | [], acc => by simp [cat]
  | y :: r, acc => by
    rw [List.foldl_cons, glue_fold r]
    simp [cat]
theorem join_nil (ys : List Str) : Txt.join ⟨#[]⟩ ys = ⟨(cat ys).toArray⟩ := by
  have e : (Txt.join ⟨#[]⟩ ys).cps.toList = cat ys := by
    cases ys with
    | nil => rfl
    | cons y r =>
      show (r.foldl (fun acc p => acc ++ (#[] : Array Nat) ++ p.cps) y.cps).toList = _
      rw [glue_fold]
      simp [cat]
  cases h : Txt.join ⟨#[]⟩ ys with
  | mk cps =>
    rw [h] at e
    rw [← e]

/-- the loop of a substitution by a text -/
theorem sub_loop {P l : Addr} {code : Array Nat} {x repl : Str} {t rt : Tok} {R : Result → Shared → Prop} {hit : Nat → Option Nat}
    (found : ∀ a, a ≤ x.cps.size → ∃ k m' r, k ≤ 5 * x.cps.size + 16 ∧ k ≠ 0 ∧ (Sre.forSearch code x.cps 0 a x.cps.size false).runFor k = m' ∧ First hit a r ∧ ans r m')
    (hp : ∀ s e, hit s = some e → s < e ∧ e ≤ x.cps.size) (hz : x.cps.size ≤ 2 ^ 18) (hzr : repl.length ≤ 16) (hne : ∀ (xs : Array Value) (ys : List Str), StrsAre xs.toList ys → (xs.map reRawOf).map (·.toNat) ≠ code) :
    ∀ (n done k : Nat) (s : Shared) (xs : Array Value) (c : Nat) (ys : List Str) (t1 t2 t3 t4 t5 : Tok), x.cps.size - done < n → done ≤ x.cps.size → PatAt s.heap P code → s.heap.get? l = some (lst xs c) → StrsAre xs.toList ys →
      ys.length ≤ 2 * done → (ys.map (·.length)).sum ≤ 17 * done →
      (∀ h' tk t', But l s.heap h' → R (.ok (.ret (.str ⟨(cat ys ++ subFrom hit repl.cps.toList x.cps done).toArray⟩ t'))) { s with heap := h', toks := tk }) →
      codeAny (model prog w) A (.builtin "re.Pattern.sub.loop" ⟨[.ref P, .str x t, .str repl rt, .int 0 t1, .int 0 t2, .int k t3, .int done t4, .int done t5, .bool false, .ref l, .bool false], []⟩) R s
  | 0, done, k, s, xs, c, ys, t1, t2, t3, t4, t5, h, _, _, _, _, _, _, _ => by omega
  | n + 1, done, k, s, xs, c, ys, t1, t2, t3, t4, t5, hn, hd, hP, hl, hys, hlen, hsum, hR => by
    have e24 : (2 : Nat) ^ 24 = 16777216 := by decide
    have e20 : (2 : Nat) ^ 18 = 262144 := by decide
    have e23 : (2 : Nat) ^ 23 = 8388608 := by decide
    have hxs : xs.size = ys.length := by
      have : ∀ {vs : List Value} {ys : List Str}, StrsAre vs ys → vs.length = ys.length := by
        intro vs ys h; induction h with
        | nil => rfl
        | cons _ _ _ ih => rw [List.length_cons, List.length_cons, ih]
      rw [← this hys, Array.length_toList]
    refine codeAny_builtin entry_subloop ?_
    unfold Builtin.«re.Pattern.sub.loop»
    dsimp only
    refine wpAny_bind (wholeTarget hP ?_)
    dsimp only
    rw [if_pos (by rfl)]
    refine wpAny_bind ?_
    unfold reLiteralCannotBeTurned
    refine wpAny_bind (wpAny_pure ?_)
    refine wpAny_pure ?_
    refine wpAny_bind ?_
    rw [if_neg (by simp)]
    obtain ⟨kk, m', r, b1, b2, b3, b4, b5⟩ := found done hd
    rw [Int.toNat_natCast]
    unfold reNextFound
    cases r with
    | none =>
      refine runToEnd (n := kk) (by omega) b2 none (by rw [b3]; exact b5) (fun _ q => nomatch q) ?_
      dsimp only
      have erest : subFrom hit repl.cps.toList x.cps done = (x.cps.extract done x.cps.size).toList := by
        rw [subFrom_skip (fun s e q => (hp s e q).1) _ done x.cps.size rfl hd (Nat.le_refl _) (fun i a _ => b4 i a), subFrom_end (Nat.le_refl _), List.append_nil]
      have fin : ∀ (h₁ : Heap) (tk : Nat) (xs' : Array Value) (c' : Nat) (ys' : List Str), But l s.heap h₁ → h₁.get? l = some (lst xs' c') → StrsAre xs'.toList ys' → xs'.size ≤ 2 ^ 23 → (ys'.map (·.length)).sum ≤ 2 ^ 23 →
          cat ys' = cat ys ++ subFrom hit repl.cps.toList x.cps done →
          wpAny (model prog w) (A.under (.builtin "re.Pattern.sub.loop" ⟨[.ref P, .str x t, .str repl rt, .int 0 t1, .int 0 t2, .int k t3, .int done t4, .int done t5, .bool false, .ref l, .bool false], []⟩)) (do
            let joiner ← reSlice x.cps 0 0 0
            let text ← if ((← seqItems? (.ref l)).getD #[]).isEmpty = true then pure joiner else call (.builtin (if (0 == 0) = true then "str.join" else "bytes.join")) [joiner, .ref l]
            ret text)
            (fun fin s' => match fin with | .done f => R (.ok f) s' | .again c' => c'.quiet = true ∧ codeAny (model prog w) A c' R s') (fun e s' => R (.error e) s') { s with heap := h₁, toks := tk } := by
        intro h₁ tk xs' c' ys' hb hl' hys' hz1 hz2 hcat
        refine wpAny_bind (slice_text (by omega) fun t0 => ?_)
        refine wpAny_bind (wpAny_seqItems hl' rfl ?_)
        rw [show x.cps.extract 0 0 = #[] by simp]
        dsimp only [Option.getD]
        by_cases hem : xs'.isEmpty = true
        · rw [if_pos hem]
          refine wpAny_bind (wpAny_pure (wpAny_pure ?_))
          have : xs'.toList = [] := by simpa using hem
          rw [this] at hys'
          cases hys'
          have := hR h₁ (tk + 1) t0 hb
          rw [← hcat] at this
          exact this
        · rw [if_neg hem, if_pos (by rfl)]
          refine wpAny_bind (join_list ⟨_, hl', rfl, _, rfl⟩ hys' (by rw [show (⟨#[]⟩ : Str).length = 0 from rfl]; omega) fun t' k' => ?_)
          refine wpAny_pure ?_
          rw [join_nil, hcat]
          exact hR h₁ k' t' hb
      by_cases hlt : done < x.cps.size
      · rw [if_pos hlt]
        refine wpAny_bind (slice_text (by omega) fun t0 => ?_)
        refine wpAny_bind (push_list hl (by omega) fun h' c' hb hl' => ?_)
        refine fin h' _ _ c' (ys ++ [⟨x.cps.extract done x.cps.size⟩]) hb hl' (strsAre_push hys _ _) (by rw [Array.size_push]; omega) ?_ ?_
        · rw [List.map_append, List.sum_append]
          show _ + (((x.cps.extract done x.cps.size).size) + 0) ≤ _
          simp; omega
        · rw [cat_snoc, erest]
      · rw [if_neg hlt]
        refine fin s.heap s.toks xs c ys But.refl hl hys (by omega) (by omega) ?_
        rw [subFrom_end (by omega), List.append_nil]
    | some se =>
      obtain ⟨st, en⟩ := se
      obtain ⟨q1, q2, q3⟩ := b4
      obtain ⟨o1, o2, o3⟩ := b5
      obtain ⟨p1, p2⟩ := hp st en q2
      refine runToEnd (n := kk) (by omega) b2 (some m') (by rw [b3]; exact o1) (fun y q => by cases q; exact b3.symm) ?_
      dsimp only
      rw [o2, o3]
      have erest : subFrom hit repl.cps.toList x.cps done = (x.cps.extract done st).toList ++ (repl.cps.toList ++ subFrom hit repl.cps.toList x.cps en) := by
        rw [subFrom_skip (fun s e q => (hp s e q).1) _ done st rfl q1 (by omega) q3, subFrom_hit (fun s e q => (hp s e q).1) (by omega) q2]
      have must : (en == st) = false := by simp; omega
      have fin : ∀ (h₁ : Heap) (tk : Nat) (xs' : Array Value) (c' : Nat) (ys' : List Str), But l s.heap h₁ → h₁.get? l = some (lst xs' c') → StrsAre xs'.toList ys' → xs'.size < 2 ^ 24 → ys'.length + 1 ≤ 2 * en → (ys'.map (·.length)).sum + 16 ≤ 17 * en →
          cat ys' = cat ys ++ (x.cps.extract done st).toList →
          wpAny (model prog w) (A.under (.builtin "re.Pattern.sub.loop" ⟨[.ref P, .str x t, .str repl rt, .int 0 t1, .int 0 t2, .int k t3, .int done t4, .int done t5, .bool false, .ref l, .bool false], []⟩)) (if (0 == 0) = true then do
                let item ← pure (Value.str repl rt)
                if (item != Value.none) = true then do
                    updateSeq l fun x => x.push item
                    again
                        (Code.builtin "re.Pattern.sub.loop"
                          {
                            pos :=
                              [Value.ref P, Value.str x t, Value.str repl rt, rawInt 0, rawInt 0, rawInt (↑k + 1),
                                rawInt ↑en, rawInt ↑en, Value.bool (en == st), Value.ref l,
                                Value.bool false] })
                  else
                    again
                      (Code.builtin "re.Pattern.sub.loop"
                        {
                          pos :=
                            [Value.ref P, Value.str x t, Value.str repl rt, rawInt 0, rawInt 0, rawInt (↑k + 1),
                              rawInt ↑en, rawInt ↑en, Value.bool (en == st), Value.ref l,
                              Value.bool false] })
              else do
                let found ← reNewMatch (Value.ref P) (Value.str x t) 0 0 x.cps.size m'
                let item ←
                  holding [found]
                      (if (0 == 1) = true then call (Value.str repl rt) [found]
                      else do
                        let __do_lift ← reFound found
                        reExpand (Value.str repl rt) __do_lift)
                if (item != Value.none) = true then do
                    updateSeq l fun x => x.push item
                    again
                        (Code.builtin "re.Pattern.sub.loop"
                          {
                            pos :=
                              [Value.ref P, Value.str x t, Value.str repl rt, rawInt 0, rawInt 0, rawInt (↑k + 1),
                                rawInt ↑en, rawInt ↑en, Value.bool (en == st), Value.ref l,
                                Value.bool false] })
                  else
                    again
                      (Code.builtin "re.Pattern.sub.loop"
                        {
                          pos :=
                            [Value.ref P, Value.str x t, Value.str repl rt, rawInt 0, rawInt 0, rawInt (↑k + 1),
                              rawInt ↑en, rawInt ↑en, Value.bool (en == st), Value.ref l,
                              Value.bool false] }))
            (fun fin s' => match fin with | .done f => R (.ok f) s' | .again c' => c'.quiet = true ∧ codeAny (model prog w) A c' R s') (fun e s' => R (.error e) s') { s with heap := h₁, toks := tk } := by
        intro h₁ tk xs' c' ys' hb hl' hys' hz1 hz2 hz3 hcat
        rw [if_pos (by rfl)]
        refine wpAny_bind (wpAny_pure ?_)
        rw [if_pos (by rfl)]
        refine wpAny_bind (push_list hl' hz1 fun h₂ c₂ hb₂ hl₂ => ?_)
        refine wpAny_pure ?_
        refine ⟨plainId_quiet (by decide +kernel) _, ?_⟩
        rw [must]
        have hP₂ : PatAt h₂ P code := hP.but (hb.trans hb₂) fun o q => by rw [hl] at q; cases q; exact ⟨_, _, rfl, hne _ _ hys⟩
        have ek : ((k : Int) + 1) = ((k + 1 : Nat) : Int) := by omega
        unfold rawInt
        rw [ek]
        refine sub_loop found hp hz hzr hne n en (k + 1) _ _ c₂ (ys' ++ [repl]) 0 0 0 0 0 (by omega) (by omega) hP₂ hl₂ (strsAre_push hys' _ _) (by rw [List.length_append]; exact hz2) ?_ ?_
        · rw [List.map_append, List.sum_append]
          show _ + (repl.length + 0) ≤ _
          omega
        · intro h' tk' t' hb'
          have := hR h' tk' t' ((hb.trans hb₂).trans hb')
          rw [cat_snoc, hcat]
          rw [erest] at this
          simpa only [List.append_assoc] using this
      by_cases hlt : done < st
      · rw [if_pos hlt]
        refine wpAny_bind (slice_text (by omega) fun t0 => ?_)
        refine wpAny_bind (push_list hl (by omega) fun h' c' hb hl' => ?_)
        refine fin h' _ _ c' (ys ++ [⟨x.cps.extract done st⟩]) hb hl' (strsAre_push hys _ _) (by rw [Array.size_push]; omega) ?_ ?_ ?_
        · rw [List.length_append]
          show ys.length + 1 + 1 ≤ _
          omega
        · rw [List.map_append, List.sum_append]
          show _ + (((x.cps.extract done st).size) + 0) + 16 ≤ _
          simp; omega
        · rw [cat_snoc]
      · rw [if_neg hlt]
        obtain rfl : done = st := by omega
        refine fin s.heap s.toks xs c ys But.refl hl hys (by omega) (by omega) (by omega) ?_
        simp
end
end Mine
end
/-! part Rx8 -/
section
set_option maxRecDepth 100000
set_option linter.unusedVariables false
open PySem
namespace Mine
open PySem.Builtin.Re PyProof.Rows PySem.Builtin

theorem plainAttrs_pattern : PlainAttrs "re.Pattern" :=
  ⟨⟨"object.__getattribute__", by rw [typeLookup_type, builtinLookup_eq_fast]; kernel_rfl, by decide +kernel⟩, by rw [typeLookup_type, builtinLookup_eq_fast]; kernel_rfl⟩
theorem slot_sub : Slot "re.Pattern" "sub" "re.Pattern.sub" :=
  .of (owner := "re.Pattern") (n := "sub") (by rw [typeLookup_type, builtinLookup_eq_fast]; kernel_rfl) (by decide +kernel) (by decide +kernel) (by decide +kernel)
    (by first | exact .inl (by decide +kernel) | exact .inr (by decide +kernel)) (by rw [isSubtype_type]; kernel_rfl)
theorem type_sub : typeOf (.builtin "re.Pattern.sub") = pure (.type "method_descriptor") := by show builtinType _ = _; rw [builtinType_eq_fast]; kernel_rfl
theorem args_sub (a b c : Value) : argsOk "re.Pattern.sub" ⟨[a, b, c], []⟩ := by
  unfold argsOk; kernel_rfl
theorem nocall_str : typeLookup (.type "str") "__call__" = pure none := by rw [typeLookup_type, builtinLookup_eq_fast]; kernel_rfl

section
variable {prog : Program} {w : World} {A : Around} {E : Value → Shared → Prop} {s : Shared}
theorem get_sub {P : Addr} {o : Obj} {pl : Sem Bool} {Q : Value × List Value → Shared → Prop} (ho : s.heap.get? P = some o) (hc : o.cls = .type "re.Pattern") (hd : o.dict = none) (h : Q (.builtin "re.Pattern.sub", [.ref P]) s) :
    wpAny (model prog w) A (getMethod (.ref P) "sub" pl) Q E s :=
  getMethod_builtin (T := "re.Pattern") ⟨o, ho, hc⟩ plainAttrs_pattern slot_sub type_sub (fun a e => by cases e; exact ⟨o, ho, hd⟩) h

theorem call_sub {P : Addr} {o : Obj} {code : Array Nat} {x repl : Str} {t rt : Tok} {Q : Value → Shared → Prop} {hit : Nat → Option Nat} (ho : s.heap.get? P = some o) (hc : o.cls = .type "re.Pattern")
    (found : ∀ a, a ≤ x.cps.size → ∃ k m' r, k ≤ 5 * x.cps.size + 16 ∧ k ≠ 0 ∧ (Sre.forSearch code x.cps 0 a x.cps.size false).runFor k = m' ∧ First hit a r ∧ ans r m')
    (hp : ∀ s e, hit s = some e → s < e ∧ e ≤ x.cps.size) (hz : x.cps.size ≤ 2 ^ 18) (hzr : repl.length ≤ 16) (hne : ∀ (xs : Array Value) (ys : List Str), StrsAre xs.toList ys → (xs.map reRawOf).map (·.toNat) ≠ code)
    (hlit : repl.cps.contains 92 = false) (hP : PatAt s.heap P code)
    (hQ : ∀ h' tk t', (∀ b o, s.heap.get? b = some o → h'.get? b = some o) → Q (.str ⟨(subFrom hit repl.cps.toList x.cps 0).toArray⟩ t') { s with heap := h', toks := tk }) :
    wpAny (model prog w) A (call (.builtin "re.Pattern.sub") [.ref P, .str repl rt, .str x t]) Q E s := by
  refine wpAny_call (codeAny_call_builtin slot_sub.plain entry_sub (slot_sub.check _ _ _ _ _ _ _ _ ⟨o, ho, hc⟩ (args_sub _ _ _) ?_))
  show wpAny _ _ (reSubstitute "re.Pattern.sub" "sub" false ⟨[.ref P, .str repl rt, .str x t], []⟩) _ _ s
  unfold reSubstitute
  dsimp only
  have hn : reNamed "re.Pattern.sub" "sub" ["repl", "string", "count"] 2 [.str repl rt, .str x t] [] = pure [some (.str repl rt), some (.str x t), none] := by rfl
  rw [hn]
  refine wpAny_bind (wpAny_pure ?_)
  dsimp only
  refine wpAny_bind (wpAny_pure ?_)
  refine wpAny_bind (wpAny_specialOf (T := "str") rfl nocall_str ?_)
  dsimp only [Option.isSome]
  rw [if_neg (by simp)]
  refine wpAny_bind (wpAny_pure ?_)
  dsimp only
  refine wpAny_bind (wpAny_pure ?_)
  rw [hlit]
  rw [if_neg (by simp), if_pos (by rfl)]
  refine wpAny_bind (wpAny_pure ?_)
  dsimp only
  refine wpAny_bind (wpAny_holding (wholeTarget hP ?_))
  rw [if_neg (by decide)]
  refine wpAny_bind (wpAny_newList ?_)
  refine wpAny_pure ⟨plainId_quiet (by decide +kernel) _, ?_⟩
  have kp : ∀ b o, s.heap.get? b = some o → (s.heap.push { cls := .type "list", data := .seq #[] }).get? b = some o := fun b o e => Heap.get?_push_of_some _ e
  have hl : (s.heap.push { cls := .type "list", data := .seq #[] }).get? s.heap.objs.size = some (lst #[] 0) := Heap.get?_push_size _ rfl
  refine sub_loop found hp hz hzr hne (x.cps.size + 1) 0 0 _ #[] 0 [] 0 0 0 0 0 (by omega) (Nat.zero_le _) ?_ hl .nil (Nat.le_refl _) (Nat.le_refl _) ?_
  · obtain ⟨oP, vs, T, oT, items, n, a, b, c, d, e, f, g, i⟩ := hP.at_
    exact ⟨oP, vs, T, oT, items, n, kp _ _ a, b, c, d, e, kp _ _ f, g, i⟩
  · intro h' tk t' hb
    refine hQ h' tk t' fun b o' e => hb b o' (Nat.ne_of_lt (Heap.lt_size e)) (kp _ _ e)
end
end Mine
end
/-! part Fn8 -/
section
set_option maxRecDepth 100000
set_option linter.unusedVariables false
open PySem PySem.W
namespace Mine
open PyProof.Rows PySem.Calls PySem.Builtin.Re PySem.Builtin
theorem warm8 : PySem.Challenge.rw_st0017_01 = PySem.Challenge.rw_st0017_01 ∧ K = K := by
  k_fill
  exact ⟨rfl, rfl⟩
theorem strs_raw : ∀ {vs : List Value} {ys : List Str}, StrsAre vs ys → ∀ v ∈ vs, reRawOf v = 0
  | _, _, .nil, v, h => by cases h
  | _, _, .cons _ _ r, v, h => by
    cases h with
    | head => rfl
    | tail _ q => exact strs_raw r v q
theorem strs_code {c : Nat} {r : List Nat} (hc : c ≠ 0) (xs : Array Value) (ys : List Str) (h : StrsAre xs.toList ys) : (xs.map reRawOf).map (·.toNat) ≠ (c :: r).toArray := by
  intro e
  have e' := congrArg Array.toList e
  rw [Array.toList_map, Array.toList_map] at e'
  cases hx : xs.toList with
  | nil => rw [hx] at e'; simp at e'
  | cons v vs =>
    rw [hx] at e' h
    have := strs_raw h v (by simp)
    simp only [List.map_cons, this] at e'
    injection e' with e1 _
    exact hc e1.symm
noncomputable def subL (hit : Array Nat → Nat → Option Nat) (z l : List Nat) : List Nat := subFrom (hit l.toArray) z l.toArray 0
theorem hitA_lt (x : Array Nat) : ∀ s e, hitA x s = some e → s < e ∧ e ≤ x.size := by
  intro s e h
  unfold hitA at h
  split at h
  · rename_i q
    simp only [Bool.and_eq_true, decide_eq_true_eq] at q
    cases h
    exact ⟨Nat.lt_succ_self _, q.2.1⟩
  · cases h
theorem hitB_lt (x : Array Nat) : ∀ s e, hitB x s = some e → s < e ∧ e ≤ x.size := by
  intro s e h
  unfold hitB at h
  repeat' split at h
  all_goals simp_all
  all_goals omega
theorem subL_len {hit : Array Nat → Nat → Option Nat} {z l : List Nat} (hp : ∀ s e, hit l.toArray s = some e → s < e) : (subL hit z l).length ≤ l.length * (z.length + 1) := by
  have := subFrom_len (repl := z) (text := l.toArray) hp (l.toArray.size - 0) 0
  rw [Nat.sub_zero, List.size_toArray] at this
  exact this
noncomputable def quote (l : List Nat) : List Nat := subL hitA [46, 46] (subL hitB [13, 10] l)

section
variable {prog : Program} {w : World} {A : Around} {h : Heap}
theorem r_sub {P : Addr} {o : Obj} {code : Array Nat} {hit : Array Nat → Nat → Option Nat} {z l : List Nat} {t rt : Tok} {Q : Value → Heap → Prop} (ho : h.get? P = some o) (hc : o.cls = .type "re.Pattern")
    (found : ∀ x : Array Nat, ∀ a, a ≤ x.size → ∃ k m' r, k ≤ 5 * x.size + 16 ∧ k ≠ 0 ∧ (Sre.forSearch code x 0 a x.size false).runFor k = m' ∧ First (hit x) a r ∧ ans r m')
    (hp : ∀ x s e, hit x s = some e → s < e ∧ e ≤ x.size) (hz : l.length ≤ 2 ^ 18) (hzr : z.length ≤ 16) (hne : ∀ (xs : Array Value) (ys : List Str), StrsAre xs.toList ys → (xs.map reRawOf).map (·.toNat) ≠ code)
    (hlit : z.toArray.contains 92 = false) (hP : PatAt h P code)
    (k : ∀ h' t', Grow h h' → Q (.str (St (subL hit z l)) t') h') : hw (model prog w) A (call (.builtin "re.Pattern.sub") [.ref P, .str (St z) rt, .str (St l) t]) Q h := hw.of fun s hs => by
  subst hs
  refine call_sub (hit := hit l.toArray) (code := code) ho hc (found l.toArray) (hp l.toArray) (by rw [List.size_toArray]; exact hz) hzr hne hlit hP fun h' tk t' g => ⟨h', tk, rfl, ?_⟩
  exact k h' t' g
end
section
variable {w : World} {A : Around} {h : Heap} {mg mb : Str → Option Value}
theorem pat1 (B : Base w mg mb h) : PatAt h 100 c1 := ⟨_, _, 99, _, _, _, B.X 100 (o100 w.params) (by k_is), rfl, by kernel_rfl, by kernel_rfl, by kernel_rfl, B.X 99 (o99 w.params) (by k_is), rfl, by kernel_rfl⟩
theorem pat2 (B : Base w mg mb h) : PatAt h 105 k2 := ⟨_, _, 104, _, _, _, B.X 105 (o105 w.params) (by k_is), rfl, by kernel_rfl, by kernel_rfl, by kernel_rfl, B.X 104 (o104 w.params) (by k_is), rfl, by kernel_rfl⟩
theorem c_quote (B : Base w mg mb h) (hroom : A.depth < recursionLimit) (l : List Nat) (tk : Tok) (hz : l.length ≤ 80000) :
    hc (model pw w) A (.call (.ref 112) ⟨[.str (St l) tk], []⟩) (fun v h' => Grow h h' ∧ ∃ t, v = .str (St (quote l)) t) h := by
  have ho : h.get? 112 = some (o112 w.params) := B.X _ _ (by k_is)
  refine hc_def1 (o := o112 w.params) (name := Str.ofString "quotedata") (x := Str.ofString "data") (params := ar9) (body := bd9) (scope := sc9) (pm := .str (Str.ofString "cpy313.smtplib") 2310) (cd := .ref 111) (doc := .none) (v := .str (St l) tk)
    hroom ho (by kernel_rfl) B.lim (codeRec_of B.X (by k_is)) (by kernel_rfl) sc9_data (by kernel_rfl) (by kernel_rfl) sc9_k (by kernel_rfl) ?_
  intro L h₁ g₁ F
  rw [bd9]
  conv => arg 3; arg 1; whnf
  have B₁ := B.grow g₁
  have q100 : h₁.get? 100 = some (o100 w.params) := B₁.X _ _ (by k_is)
  have q105 : h₁.get? 105 = some (o105 w.params) := B₁.X _ _ (by k_is)
  have hl2 := subL_len (hit := hitB) (z := [13, 10]) (l := l) fun s e q => (hitB_lt _ s e q).1
  refine h_cons (h_ret (h_method "re.Pattern" "re.Pattern.sub" plainAttrs_pattern slot_sub type_sub ?_))
  refine h_global B₁.g sc9_twin_re_1 sc9_k (mg_twin_re_1 B₁) ⟨fun s e => ⟨_, by rw [e]; exact q100, rfl⟩, fun a e => by cases e; exact ⟨_, q100, rfl⟩, ?_⟩
  refine hs_cons (h_str fun t1 => hs_cons (h_method "re.Pattern" "re.Pattern.sub" plainAttrs_pattern slot_sub type_sub ?_))
  refine h_global B₁.g sc9_twin_re_2 sc9_k (mg_twin_re_2 B₁) ⟨fun s e => ⟨_, by rw [e]; exact q105, rfl⟩, fun a e => by cases e; exact ⟨_, q105, rfl⟩, ?_⟩
  refine hs_cons (h_global B₁.g sc9_CRLF sc9_k (mg_CRLF B₁) ?_)
  refine hs_cons (h_loc (v := .str (St l) tk) F sc9_data sc9_k (hs_nil ?_))
  refine r_sub (hit := hitB) (code := k2) (z := [13, 10]) q105 rfl (fun x a ha => found2 x a ha) hitB_lt (by omega) (by decide) (fun xs ys => strs_code (by decide) xs ys) (by decide +kernel) (pat2 B₁) fun h₂ t₂ g₂ => ?_
  have B₂ := B₁.grow g₂
  refine hs_nil ?_
  rw [show Str.ofString ".." = St [46, 46] by kernel_rfl]
  refine r_sub (hit := hitA) (code := c1) (z := [46, 46]) (g₂ _ _ q100) rfl (fun x a ha => ?_) hitA_lt (by simp at hl2; omega) (by decide) (fun xs ys => strs_code (by decide) xs ys) (by decide +kernel) (pat1 B₂) fun h₃ t₃ g₃ => ⟨g₁.trans (g₂.trans g₃), t₃, rfl⟩
  obtain ⟨k, m', r, e1, e2⟩ := found1 x a ha
  exact ⟨k, m', r, by omega, e2⟩
end
end Mine
end
/-! part Fw6 -/
section
set_option maxRecDepth 100000
set_option linter.unusedVariables false
open PySem
namespace Mine
open PyProof.Rows PySem.Calls
/-- what is known, but for some addresses -/
noncomputable def Out (D : Addr → Prop) (h : Heap) : Addr → Obj → Prop := fun b o => h.get? b = some o ∧ ¬ D b
/-- a heap follows another, but for some addresses -/
noncomputable def Past (D : Addr → Prop) (h h' : Heap) : Prop := ∀ b o, ¬ D b → h.get? b = some o → h'.get? b = some o
theorem Past.refl {D : Addr → Prop} {h : Heap} : Past D h h := fun _ _ _ e => e
theorem Past.trans {D : Addr → Prop} {h h' h'' : Heap} (x : Past D h h') (y : Past D h' h'') : Past D h h'' := fun b o d e => y b o d (x b o d e)
theorem Grow.past {D : Addr → Prop} {h h' : Heap} (g : Grow h h') : Past D h h' := fun b o _ e => g b o e
section
variable {S : Addr → Obj → Prop} {L : Addr} {m : Str → Option Value} {h h' : Heap} {D : Addr → Prop}
theorem Fm.out (hn : h.Ns L m) (hD : D L) : Fm (Out D h) L m h := ⟨hn, fun _ _ x => x.1, fun _ x => x.2 hD⟩
theorem Fm.past (F : Fm (Out D h) L m h') : Past D h h' := fun b o d e => F.keep b o ⟨e, d⟩
theorem Fm.but (F : Fm S L m h) {a : Addr} (k : ∀ b o, b ≠ a → h.get? b = some o → h'.get? b = some o) (hL : a ≠ L) (hS : ∀ o, ¬ S a o) : Fm S L m h' := by
  refine ⟨?_, fun b o x => k b o (fun e => hS o (e ▸ x)) (F.keep b o x), F.off⟩
  obtain ⟨o, es, ep, e, r⟩ := F.ns
  exact ⟨o, es, ep, k _ _ hL.symm e, r⟩
theorem ns_keep {o' : Obj} (hn : h.Ns L m) (k : ∀ o, h.get? L = some o → h'.get? L = some o) : h'.Ns L m := by
  obtain ⟨o, es, ep, e, r⟩ := hn
  exact ⟨o, es, ep, k _ e, r⟩
end

theorem letgo_none {prog : Program} {w : World} {A : Around} {h : Heap} {target : Expr} {r : Addr} {v : Value} {o : Obj} {ty : String} {vs : Array Value} (ho : h.get? r = some o) (hc : o.cls = .type ty) (hd : o.data = .fields vs)
    (hn : ["enumerate", "zip", "dict_itemiterator", "dict_reverseitemiterator", "odict_iterator", "itertools.zip_longest", "itertools.pairwise"].contains ty = false) : hw (model prog w) A (letOwnedTupleGo target (.ref r) v) (fun _ h' => h' = h) h := by
  refine hw.of fun s hs => ?_
  subst hs
  unfold letOwnedTupleGo
  split
  · cases v with
    | ref a =>
      refine wpAny_bind (wpAny_load ho ?_)
      rw [hc, hd]
      dsimp only
      rw [hn, Bool.false_and, if_neg (by decide)]
      exact wpAny_pure ⟨_, _, rfl, rfl⟩
    | _ => exact wpAny_pure ⟨_, _, rfl, rfl⟩
  · cases v with
    | ref a =>
      refine wpAny_bind (wpAny_load ho ?_)
      rw [hc, hd]
      dsimp only
      rw [hn, Bool.false_and, if_neg (by decide)]
      exact wpAny_pure ⟨_, _, rfl, rfl⟩
    | _ => exact wpAny_pure ⟨_, _, rfl, rfl⟩
  · exact wpAny_pure ⟨_, _, rfl, rfl⟩
/-- an iterator's walk -/
structure Walk (prog : Program) (w : World) (N : Nat) (At : Addr → Nat → Heap → Prop) (val : Nat → Value → Prop) (Loc : Addr → Addr → Prop) : Prop where
  self : ∀ it, Loc it it
  keep : ∀ {it i h h'}, At it i h → (∀ b o, Loc it b → h.get? b = some o → h'.get? b = some o) → At it i h'
  go : ∀ {A : Around} {target it i h v}, At it i h → hw (model prog w) A (letOwnedTupleGo target (.ref it) v) (fun _ h' => h' = h) h
  next : ∀ {A : Around} {it i h} {P : Option Value → Heap → Prop}, A.handled = none → i < N → At it i h → (∀ v h', val i v → At it (i + 1) h' → Heap.SameBut it h h' → P (some v) h') → hw (model prog w) A (pyNext (.ref it)) P h
  fin : ∀ {A : Around} {it h} {P : Option Value → Heap → Prop}, A.handled = none → At it N h → (∀ h', Heap.ExtBut it h h' → P none h') → hw (model prog w) A (pyNext (.ref it)) P h

section
variable {prog : Program} {w : World} {A : Around} {env : Env} {h : Heap}
theorem h_for {target iter : Expr} {body : List Stmt} {pos : Pos} {P : Flow → Heap → Prop} (N : Nat) (val : Nat → Value → Prop) (D : Addr → Prop) (J : Nat → Heap → Prop)
    (hh : A.handled = none)
    (hJ : ∀ i h h', J i h → (∀ b o, D b → h.get? b = some o → h'.get? b = some o) → J i h')
    (x : hw (model prog w) A (eval iter env) (fun v h₁ => J 0 h₁ ∧ Past D h h₁ ∧ hw (model prog w) A (pyIter v) (fun r h₂ => ∃ it At Loc, r = .ref it ∧ Walk prog w N At val Loc ∧ At it 0 h₂ ∧ (∀ b, Loc it b → ¬ D b) ∧ Grow h₁ h₂ ∧ h₁.get? it = none) h₁) h)
    (turn : ∀ i v h', i < N → val i v → J i h' → Past D h h' → hw (model prog w) A (assign target env v) (fun _ h3 => hw (model prog w) A (execs body env) (fun f h4 => match f with
      | .next => J (i + 1) h4 ∧ Past D h' h4 | .cont => J (i + 1) h4 ∧ Past D h' h4 | .brk => P .next h4 | .ret v => P (.ret v) h4) h3) h')
    (fin : ∀ h', J N h' → Past D h h' → P .next h')
    (hs : ∀ x, foldedSetIterable iter env x = pure x := by intro _; rfl) : hw (model prog w) A (exec (.For target iter body [] pos) env) P h := hw.mk fun g d k o => by
  refine wpAny_For (wpAny_mono (x.go g d k o) (fun v s₁ q => ?_) fun _ _ q => q) hs
  obtain ⟨h₁, k₁, rfl, j0, p0, q⟩ := q
  refine wpAny_mono (q.go g d k₁ o) (fun r s₂ q => ?_) fun _ _ q => q.elim
  obtain ⟨h₂, k₂, rfl, it, At, Loc, rfl, W, a0, hL, g₁₂, n₁⟩ := q
  have hne : ∀ b o', ¬ D b → h.get? b = some o' → b ≠ it := by
    rintro b o' db eb rfl
    have := p0 b o' db eb
    rw [n₁] at this
    cases this
  refine codeAny_forLoop_any (fun n s => ∃ h' k' i, s = ⟨h', g, d, k', o⟩ ∧ n = N - i ∧ i ≤ N ∧ J i h' ∧ At it i h' ∧ Past D h h') ?_ N ?_
  · rintro n s ⟨h', k', i, rfl, rfl, hi, hj, ha, hp⟩
    by_cases q : i = N
    · subst q
      refine wpAny_mono ((W.fin (P := fun r h'' => r = none ∧ P .next h'') hh ha fun h'' e => ⟨rfl, fin h'' (hJ _ _ _ hj fun b o db eb => e b o (fun eq => hL it (W.self it) (eq ▸ db)) eb) ?_⟩).go g d k' o) (fun r s₃ q => ?_) fun _ _ q => q.elim
      · intro b o' db eb
        exact e b o' (hne b o' db eb) (hp b o' db eb)
      · obtain ⟨h3, k3, rfl, rfl, q⟩ := q
        exact wpAny_pure ⟨_, _, rfl, q⟩
    · refine wpAny_mono ((W.next (P := fun r h'' => ∃ v, r = some v ∧ val i v ∧ At it (i + 1) h'' ∧ Heap.SameBut it h' h'') hh (by omega) ha fun v h'' a b c => ⟨v, rfl, a, b, c⟩).go g d k' o) (fun r s₃ q => ?_) fun _ _ q => q.elim
      obtain ⟨h3, k3, rfl, v, rfl, hv, ha3, hs3⟩ := q
      have hb : ∀ b o', b ≠ it → h'.get? b = some o' → h3.get? b = some o' := fun b o' ne e => (hs3.2 b ne).trans e
      have hp3 : Past D h h3 := fun b o' db eb => hb b o' (hne b o' db eb) (hp b o' db eb)
      refine wpAny_mono ((W.go ha3).go g d k3 o) (fun _ s₄ q => ?_) fun _ _ q => q.elim
      obtain ⟨h3', k3', es, e3'⟩ := q
      rw [e3'] at es
      rw [es]
      refine wpAny_mono ((turn i v h3 (by omega) hv (hJ _ _ _ hj fun b o' db eb => hb b o' (fun eq => hL it (W.self it) (eq ▸ db)) eb) hp3).go g d k3' o) (fun _ s₄ q => ?_) fun _ _ q => q.elim
      obtain ⟨h4, k4, rfl, q⟩ := q
      refine wpAny_mono (q.go g d k4 o) (fun f s₅ q => ?_) fun _ _ q => q.elim
      obtain ⟨h5, k5, rfl, q⟩ := q
      have again : J (i + 1) h5 ∧ Past D h3 h5 → ∃ m, m < N - i ∧ ∃ h'' k'' i', (⟨h5, g, d, k5, o⟩ : Shared) = ⟨h'', g, d, k'', o⟩ ∧ m = N - i' ∧ i' ≤ N ∧ J i' h'' ∧ At it i' h'' ∧ Past D h h'' := fun ⟨j5, p5⟩ =>
        ⟨N - (i + 1), by omega, h5, k5, i + 1, rfl, rfl, by omega, j5, W.keep ha3 (fun b o' lb eb => p5 b o' (hL b lb) eb), hp3.trans p5⟩
      cases f with
      | next => exact again q
      | cont => exact again q
      | brk => exact ⟨_, _, rfl, q⟩
      | ret v => exact ⟨_, _, rfl, q⟩
  · exact ⟨h₂, k₂, 0, rfl, rfl, Nat.zero_le _, hJ _ _ _ j0 fun b o _ e => g₁₂ b o e, a0, p0.trans g₁₂.past⟩
end
end Mine
end
/-! part Fw7 -/
section
set_option maxRecDepth 100000
set_option linter.unusedVariables false
open PySem
namespace Mine
open PyProof.Rows PySem.Calls
theorem sameBut_ext {a : Addr} {h h' : Heap} (x : Heap.SameBut a h h') : Heap.ExtBut a h h' := fun b o ne e => (x.2 b ne).trans e
noncomputable def OnlyIt (it b : Addr) : Prop := b = it
noncomputable def ItAnd (l : Addr) (it b : Addr) : Prop := b = it ∨ b = l
section
variable {prog : Program} {w : World} {A : Around} {h : Heap}
/-! over a text -/
noncomputable def strTy (x : Str) : String := if x.cps.all (· < 128) then "str_ascii_iterator" else "str_iterator"
theorem iter_keep {ty : String} {x : Str} {t : Tok} {i : Nat} {it : Addr} {h h' : Heap} (a : h.IsStrIter it ty x t i) (k : ∀ b o, OnlyIt it b → h.get? b = some o → h'.get? b = some o) : h'.IsStrIter it ty x t i := by
  obtain ⟨o, e, r⟩ := a
  exact ⟨o, k _ _ rfl e, r⟩
theorem walk_str (prog : Program) (w : World) (x : Str) (t : Tok) : Walk prog w x.cps.size (fun it i h => h.IsStrIter it (strTy x) x t i) (fun i v => ∃ t', v = .str ⟨#[x.cps.getD i 0]⟩ t') OnlyIt where
  self := fun it => rfl
  keep := fun a k => iter_keep a k
  go := fun {A target it i h v} a => by
    obtain ⟨o, e1, e2, e3⟩ := a
    refine letgo_none e1 e2 e3 ?_
    unfold strTy
    split <;> decide
  next := by
    intro A it i h P hh hi ha k
    refine hw.of fun s hs => ?_
    subst hs
    have hc : x.cps[i]? = some (x.cps.getD i 0) := by simp [Array.getD, hi]
    by_cases q : x.cps.all (· < 128)
    · have e : strTy x = "str_ascii_iterator" := if_pos q
      rw [e] at ha k
      exact wpAny_pyNext_ascii_item ha hc fun h' a b => ⟨h', _, rfl, k _ _ ⟨_, rfl⟩ a b⟩
    · have e : strTy x = "str_iterator" := if_neg q
      rw [e] at ha k
      exact wpAny_pyNext_wide_item ha hc fun h' a b => ⟨h', _, rfl, k _ _ ⟨_, rfl⟩ a b⟩
  fin := by
    intro A it h P hh ha k
    refine hw.of fun s hs => ?_
    subst hs
    have hc : x.cps[x.cps.size]? = none := by simp
    by_cases q : x.cps.all (· < 128)
    · have e : strTy x = "str_ascii_iterator" := if_pos q
      rw [e] at ha
      exact wpAny_pyNext_ascii_end hh ha hc fun h' a => ⟨h', _, rfl, k _ a⟩
    · have e : strTy x = "str_iterator" := if_neg q
      rw [e] at ha
      exact wpAny_pyNext_wide_end hh ha hc fun h' a => ⟨h', _, rfl, k _ a⟩
theorem grow_push {h : Heap} {o : Obj} : Grow h (h.push o) := fun b o' e => Heap.get?_push_of_some _ e
theorem iter_str {x : Str} {t : Tok} {D : Addr → Prop} {P : Value → Heap → Prop} (hD : ∀ b, D b → ∃ o, h.get? b = some o) (k : ∀ it h', (∃ it' At Loc, it = .ref it' ∧ Walk prog w x.cps.size At (fun i v => ∃ t', v = .str ⟨#[x.cps.getD i 0]⟩ t') Loc ∧ At it' 0 h' ∧ (∀ b, Loc it' b → ¬ D b) ∧ Grow h h' ∧ h.get? it' = none) → P it h') : hw (model prog w) A (pyIter (.str x t)) P h := by
  have nD : ∀ b, OnlyIt h.objs.size b → ¬ D b := by
    rintro b rfl db
    obtain ⟨o, e⟩ := hD _ db
    rw [new_none] at e; cases e
  refine hw.of fun s hs => ?_
  subst hs
  by_cases q : x.cps.all (· < 128)
  · have e : strTy x = "str_ascii_iterator" := if_pos q
    exact wpAny_pyIter_ascii q ⟨_, _, rfl, k _ _ ⟨_, _, _, rfl, walk_str prog w x t, ⟨_, Heap.get?_push_size _ rfl, by rw [e], rfl⟩, nD, grow_push, new_none _⟩⟩
  · have e : strTy x = "str_iterator" := if_neg q
    exact wpAny_pyIter_wide (by simpa using q) ⟨_, _, rfl, k _ _ ⟨_, _, _, rfl, walk_str prog w x t, ⟨_, Heap.get?_push_size _ rfl, by rw [e], rfl⟩, nD, grow_push, new_none _⟩⟩

/-! over a list -/
noncomputable def ListAt (l : Addr) (o : Obj) (it : Addr) (i : Nat) (h : Heap) : Prop := h.IsListIter it l i ∧ h.get? l = some o ∧ it ≠ l
theorem walk_list (prog : Program) (w : World) (l : Addr) (vs : List Value) (n : Nat) : Walk prog w vs.length (ListAt l (lobj vs n)) (fun i v => vs[i]? = some v) (ItAnd l) where
  self := fun it => .inl rfl
  keep := fun {it i h h'} a k => ⟨let ⟨o, e, r⟩ := a.1; ⟨o, k _ _ (.inl rfl) e, r⟩, k _ _ (.inr rfl) a.2.1, a.2.2⟩
  go := fun {A target it i h v} a => by
    obtain ⟨o, e1, e2, e3⟩ := a.1
    exact letgo_none e1 e2 e3 (by decide)
  next := by
    intro A it i h P hh hi ha k
    refine hw.of fun s hs => ?_
    subst hs
    have hL : s.heap.IsList l vs.toArray := ⟨_, ha.2.1, rfl, _, rfl⟩
    have hx : vs.toArray[i]? = some vs[i] := by simp [hi]
    exact wpAny_pyNext_list_item ha.1 hL hx fun h' a b => ⟨h', _, rfl, k _ _ (by simp [hi]) ⟨a, (b.2 _ ha.2.2.symm).trans ha.2.1, ha.2.2⟩ b⟩
  fin := by
    intro A it h P hh ha k
    refine hw.of fun s hs => ?_
    subst hs
    have hL : s.heap.IsList l vs.toArray := ⟨_, ha.2.1, rfl, _, rfl⟩
    exact wpAny_pyNext_list_end hh ha.1 hL (by simp) fun h' a => ⟨h', _, rfl, k _ a⟩
theorem iter_list {l : Addr} {vs : List Value} {n : Nat} {D : Addr → Prop} {P : Value → Heap → Prop} (hl : h.get? l = some (lobj vs n)) (hDl : ¬ D l) (hD : ∀ b, D b → ∃ o, h.get? b = some o) (k : ∀ it h', (∃ it' At Loc, it = .ref it' ∧ Walk prog w vs.length At (fun i v => vs[i]? = some v) Loc ∧ At it' 0 h' ∧ (∀ b, Loc it' b → ¬ D b) ∧ Grow h h' ∧ h.get? it' = none) → P it h') : hw (model prog w) A (pyIter (.ref l)) P h := by
  have nD : ∀ b, ItAnd l h.objs.size b → ¬ D b := by
    rintro b (rfl | rfl) db
    · obtain ⟨o, e⟩ := hD _ db
      rw [new_none] at e; cases e
    · exact hDl db
  refine hw.of fun s hs => ?_
  subst hs
  have hL : s.heap.IsList l vs.toArray := ⟨_, hl, rfl, _, rfl⟩
  refine wpAny_pyIter_list hL ⟨_, _, rfl, k _ _ ⟨_, _, _, rfl, walk_list prog w l vs n, ⟨⟨_, Heap.get?_push_size _ rfl, rfl, rfl⟩, Heap.get?_push_of_some _ hl, fun e => ?_⟩, nD, grow_push, new_none _⟩⟩
  rw [← e, new_none] at hl; cases hl

/-! over a range of N from 0 -/
theorem walk_range (prog : Program) (w : World) (N : Nat) : Walk prog w N (fun it i h => IsRangeIter h it (i : Int) ((N : Int) - i) 1) (fun i v => ∃ t', v = .int (i : Int) t') OnlyIt where
  self := fun it => rfl
  keep := fun a k => k _ _ rfl a
  go := fun {A target it i h v} a => letgo_none a rfl rfl (by decide)
  next := by
    intro A it i h P hh hi ha k
    refine hw.of fun s hs => ?_
    subst hs
    refine wpAny_pyNext_range_item ha (by omega) fun h' a b => ⟨h', _, rfl, k _ _ ⟨_, rfl⟩ ?_ b⟩
    have e1 : ((i + 1 : Nat) : Int) = (i : Int) + 1 := by push_cast; rfl
    rw [e1, show (N : Int) - ((i : Int) + 1) = (N : Int) - i - 1 by omega]
    exact a
  fin := by
    intro A it h P hh ha k
    refine hw.of fun s hs => ?_
    subst hs
    exact wpAny_pyNext_range_end hh ha (by omega) fun h' a => ⟨h', _, rfl, k _ a⟩
/-- range(n), then walked -/
theorem r_range {n : Int} {t : Tok} {P : Value → Heap → Prop} (h1 : -100000 < n) (h2 : n < 100000) (k : ∀ r h', Grow h h' → h.get? r = none →
    (∀ {D : Addr → Prop} {P : Value → Heap → Prop}, (∀ b, D b → ∃ o, h'.get? b = some o) → (∀ it h'', (∃ it' At Loc, it = .ref it' ∧ Walk prog w n.toNat At (fun i v => ∃ t', v = .int (i : Int) t') Loc ∧ At it' 0 h'' ∧ (∀ b, Loc it' b → ¬ D b) ∧ Grow h' h'' ∧ h'.get? it' = none) → P it h'') → hw (model prog w) A (pyIter (.ref r)) P h') → P (.ref r) h') :
    hw (model prog w) A (call (.type "range") [.int n t]) P h := by
  refine hw.of fun s hs => ?_
  subst hs
  refine call_range_1 ⟨_, _, rfl, k _ _ grow_push (new_none _) ?_⟩
  intro D P' hD k'
  have e63 : (2 : Int) ^ 63 = 9223372036854775808 := by decide
  refine hw.of fun s' hs' => ?_
  have hr : IsRange s'.heap s.heap.objs.size 0 n 1 s.toks t (s.toks + 1) := by rw [hs']; exact IsRange.new _ _ _ _ _ _ _
  have hsz : Builtin.Range.rangeSize 0 n 1 = (n.toNat : Int) := by rw [rangeSize_one]; split <;> omega
  refine wpAny_pyIter_range hr (small_one (by decide) (by decide) (by omega) (by omega)) ⟨_, _, rfl, k' _ _ ?_⟩
  rw [hs']
  refine ⟨_, _, _, rfl, walk_range prog w n.toNat, ?_, ?_, grow_push, new_none _⟩
  · show IsRangeIter _ _ ((0 : Nat) : Int) ((n.toNat : Int) - ((0 : Nat) : Int)) 1
    rw [hsz]
    have : ((n.toNat : Int) - ((0 : Nat) : Int)) = (n.toNat : Int) := by simp
    rw [this]
    exact Heap.get?_push_size _ rfl
  · rintro b rfl db
    obtain ⟨o, e⟩ := hD _ db
    rw [new_none] at e; cases e
end
end Mine
end
/-! part Fn9 -/
section
set_option maxRecDepth 100000
set_option linter.unusedVariables false
open PySem PySem.W
namespace Mine
open PyProof.Rows PySem.Calls
theorem warm9 : PySem.Challenge.rw_st0017_01 = PySem.Challenge.rw_st0017_01 ∧ K = K := by
  k_fill
  exact ⟨rfl, rfl⟩
noncomputable def prep1 (c : Nat) : List Nat := if b1in c then [] else (fold c).cps.toList
noncomputable def prep (l : List Nat) : List Nat := l.flatMap prep1
theorem b3short : ∀ x ∈ b3pairs, x.2.length ≤ 18 := by decide +kernel
theorem findP_mem : ∀ {l : List (Int × Str)} {k : Int} {s : Str}, findP l k = some s → ∃ x ∈ l, x.2 = s
  | [], _, _, h => by cases h
  | x :: l, k, s, h => by
    rw [findP] at h
    split at h
    · cases h; exact ⟨x, by simp, rfl⟩
    · obtain ⟨y, hy, e⟩ := findP_mem h
      exact ⟨y, by simp [hy], e⟩
theorem fold_len (c : Nat) : (fold c).length ≤ 18 := by
  unfold fold
  cases e : b3get c with
  | none => have := len_lower ⟨#[c]⟩; show (Txt.lower ⟨#[c]⟩).length ≤ 18; have q : (⟨#[c]⟩ : Str).length = 1 := rfl; omega
  | some s => obtain ⟨x, hx, rfl⟩ := findP_mem e; exact b3short x hx
theorem prep_len : ∀ l : List Nat, (prep l).length ≤ 18 * l.length
  | [] => Nat.le_refl _
  | c :: l => by
    have h1 := prep_len l
    have h2 := fold_len c
    have h3 : (prep1 c).length ≤ 18 := by
      unfold prep1
      split
      · simp
      · rw [Array.length_toList]; exact h2
    show (prep1 c ++ prep l).length ≤ _
    rw [List.length_append, List.length_cons]; omega
theorem prep_take {l : List Nat} {i : Nat} (h : i < l.length) : prep (l.take (i + 1)) = prep (l.take i) ++ prep1 (l.toArray.getD i 0) := by
  rw [List.take_add_one, List.getElem?_eq_getElem h]
  have : l.toArray.getD i 0 = l[i] := by simp [Array.getD, h]
  rw [this, prep, List.flatMap_append, prep]
  simp
section
variable {prog : Program} {w : World} {A : Around} {h : Heap}
theorem is_bbN {a b : Bool} {P : Value → Heap → Prop} (x : P (.bool (!(Value.bool a == Value.bool b))) h) : hw (model prog w) A (compareOp .IsNot (.bool a) (.bool b)) P h := hw.of fun s hs => by
  subst hs
  exact wpAny_isNot_plain rfl ⟨_, _, rfl, x⟩
end
theorem St_append (a b : List Nat) : St a ++ St b = St (a ++ b) := by
  show Str.mk (a.toArray ++ b.toArray) = _
  simp
section
variable {w : World} {A : Around} {h : Heap} {mg mb : Str → Option Value}
theorem c_prep (B : Base w mg mb h) (hA : A.handled = none) (hroom : A.depth + 1 < recursionLimit) (l : List Nat) (tk : Tok) (hz : l.length ≤ 1000) :
    hc (model pw w) A (.call (.ref 161) ⟨[.str (St l) tk], []⟩) (fun v h' => Grow h h' ∧ ∃ t, v = .str (St (prep l)) t) h := by
  have ho : h.get? 161 = some (o161 w.params) := B.X _ _ (by k_is)
  refine hc_def1 (o := o161 w.params) (name := Str.ofString "_law_prepared") (x := Str.ofString "text") (params := ar18) (body := bd18) (scope := sc18) (pm := .str (Str.ofString "law_st0017_01") 2395) (cd := .ref 160) (doc := .none) (v := .str (St l) tk)
    (by omega) ho (by kernel_rfl) B.lim (codeRec_of B.X (by k_is)) (by kernel_rfl) sc18_text (by kernel_rfl) (by kernel_rfl) sc18_k (by kernel_rfl) ?_
  intro L h₁ g₁ F
  rw [bd18]
  conv => arg 3; arg 1; whnf
  have hA' : (A.deeper (envOf (Str.ofString "_law_prepared") sc18 L 161 (Value.ref 160))).handled = none := hA
  have hR' : (A.deeper (envOf (Str.ofString "_law_prepared") sc18 L 161 (Value.ref 160))).depth < recursionLimit := hroom
  generalize A.deeper (envOf (Str.ofString "_law_prepared") sc18 L 161 (Value.ref 160)) = A' at hA' hR' ⊢
  refine h_cons (h_assign sc18_kept sc18_k (h_str fun t0 => ⟨_, _, F.all, fun h₂ F₂ => ?_⟩))
  have R₂ := (From.of F).next F₂
  have B₂ := B.grow R₂.G
  refine h_cons (h_for (St l).cps.size (fun i v => ∃ t', v = .str ⟨#[(St l).cps.getD i 0]⟩ t') (fun b => b = L) (fun i h' => ∃ m t, h'.Ns L m ∧ m (Str.ofString "kept") = some (.str (St (prep (l.take i))) t)) hA' ?_ ?_ ?_ ?_)
  · rintro i h' h'' ⟨m, t, n, e⟩ k
    obtain ⟨o, es, ep, eo, r⟩ := n
    exact ⟨m, t, ⟨o, es, ep, k _ _ rfl eo, r⟩, e⟩
  · refine h_loc (v := .str (St l) tk) F₂ sc18_text sc18_k ⟨⟨_, t0, F₂.ns, upd_eq⟩, .refl, iter_str (fun b e => by subst e; exact F₂.there) fun it h' q => q⟩
  · rintro i v h' hi ⟨t', rfl⟩ ⟨m, t, n, e⟩ p
    have hi : i < l.length := by simpa using hi
    rw [show (St l).cps.getD i 0 = l.toArray.getD i 0 from rfl]
    generalize hcc : l.toArray.getD i 0 = c
    refine h_asgnN (Fm.out (D := fun b => b = L) n rfl) sc18_sign sc18_k fun h₃ F₃ => ?_
    have R₃ : From h L h₃ := ⟨fun b o e => by
      have q := R₂.go b o e
      exact ⟨F₃.keep _ _ ⟨p b o q.2 q.1, q.2⟩, q.2⟩⟩
    have B₃ := B.grow R₃.G
    refine h_cons (h_assign sc18_told sc18_k ?_)
    refine h_callF (f := 49) (fo := o49 w.params) (fun q => h_global B₃.g sc18_in_table_b1 sc18_k (mg_in_table_b1 B₃) q) rfl ?_
    refine hs_cons (h_loc (v := .str ⟨#[c]⟩ t') F₃ sc18_sign sc18_k (hs_nil ⟨B₃.X _ _ (by k_is), hc.call (hc_mono (c_inb1 B₃ hR' c t') fun v h₄ q => ?_)⟩))
    obtain ⟨g₄, rfl⟩ := q
    refine ⟨_, _, F₃.grow g₄, fun h₅ F₅ => ?_⟩
    have R₅ : From h L h₅ := ⟨fun b o e => by
      have q := R₂.go b o e
      exact ⟨F₅.keep _ _ ⟨p b o q.2 q.1, q.2⟩, q.2⟩⟩
    have B₅ := B.grow R₅.G
    refine h_cons (h_if (h_test (h_loc (v := .bool (b1in c)) F₅ sc18_told sc18_k (h_bool (is_bb (h_truthy ?_))))))
    cases eb : b1in c with
    | true =>
      refine h_cons (h_if (h_test (h_loc (v := .bool true) (by rw [eb] at F₅; exact F₅) sc18_told sc18_k (h_bool (is_bbN (h_truthy ?_))))))
      refine h_nil (h_nil (h_nil ⟨⟨_, t, F₅.ns, ?_⟩, F₅.past⟩))
      rw [prep_take hi, hcc, show prep1 c = [] from if_pos eb, List.append_nil]
      exact upd_ne (by decide) (upd_ne (by decide) e)
    | false =>
      refine h_cons (h_assign sc18_kept sc18_k (h_binop ?_))
      refine h_loc (v := .str (St (prep (l.take i))) t) F₅ sc18_kept sc18_k ?_ (upd_ne (by decide) (upd_ne (by decide) e))
      refine h_callF (f := 95) (fo := o95 w.params) (fun q => h_global B₅.g sc18_map_table_b3 sc18_k (mg_map_table_b3 B₅) q) rfl ?_
      refine hs_cons (h_loc (v := .str ⟨#[c]⟩ t') F₅ sc18_sign sc18_k (hs_nil ⟨B₅.X _ _ (by k_is), hc.call (hc_mono (c_b3 B₅ hR' c t') fun v h₆ q => ?_)⟩))
      obtain ⟨g₆, t₆, rfl⟩ := q
      have hl1 := prep_len (l.take i)
      have hl2 := fold_len c
      have hl3 : (l.take i).length ≤ l.length := by rw [List.length_take]; omega
      refine s_add (by rw [show (St (prep (l.take i))).length = (prep (l.take i)).length from by show Array.size _ = _; simp]; have e20 : (2:Nat)^20 = 1048576 := by decide
                       omega) fun t₇ => ⟨_, _, F₅.grow g₆, fun h₇ F₇ => h_nil (h_nil ⟨⟨_, t₇, F₇.ns, ?_⟩, F₇.past⟩)⟩
      rw [prep_take hi, hcc, show prep1 c = (fold c).cps.toList from if_neg (by rw [eb]; decide)]
      rw [← St_append]
      exact upd_eq
  · rintro h' ⟨m, t, n, e⟩ p
    rw [List.take_of_length_le (by simp)] at e
    refine h_cons (h_ret (h_loc (v := .str (St (prep l)) t) (Fm.out (D := fun b => b = L) n rfl) sc18_kept sc18_k ⟨fun b o q => ?_, t, rfl⟩ e))
    have q := R₂.go b o q
    exact p b o q.2 q.1
end
end Mine
end
/-! part Fn10 -/
section
set_option maxRecDepth 100000
set_option linter.unusedVariables false
open PySem PySem.W
namespace Mine
open PyProof.Rows PySem.Calls
theorem warm10 : PySem.Challenge.rw_st0017_01 = PySem.Challenge.rw_st0017_01 ∧ K = K := by
  k_fill
  exact ⟨rfl, rfl⟩
noncomputable def page (l : List Nat) : List Nat := quote (esc (prep l))
theorem esc_len (l : List Nat) : (esc l).length ≤ 125 * l.length := by
  have l1 := esc1_length 38 [38, 97, 109, 112, 59] l (by decide)
  have l2 := esc1_length 60 [38, 108, 116, 59] (esc1 38 [38, 97, 109, 112, 59] l) (by decide)
  have l3 := esc1_length 62 [38, 103, 116, 59] (esc1 60 [38, 108, 116, 59] (esc1 38 [38, 97, 109, 112, 59] l)) (by decide)
  unfold esc
  omega
section
variable {w : World} {A : Around} {h : Heap} {mg mb : Str → Option Value}
theorem c_page (B : Base w mg mb h) (hA : A.handled = none) (hroom : A.depth + 2 < recursionLimit) (l : List Nat) (tk : Tok) (hz : l.length ≤ 30) :
    hc (model pw w) A (.call (.ref 175) ⟨[.str (St l) tk], []⟩) (fun v h' => Grow h h' ∧ ∃ t, v = .str (St (page l)) t) h := by
  have ho : h.get? 175 = some (o175 w.params) := B.X _ _ (by k_is)
  refine hc_def1 (o := o175 w.params) (name := Str.ofString "_law_page") (x := Str.ofString "text") (params := ar20) (body := bd20) (scope := sc20) (pm := .str (Str.ofString "law_st0017_01") 2395) (cd := .ref 174) (doc := .none) (v := .str (St l) tk)
    (by omega) ho (by kernel_rfl) B.lim (codeRec_of B.X (by k_is)) (by kernel_rfl) sc20_text (by kernel_rfl) (by kernel_rfl) sc20_k (by kernel_rfl) ?_
  intro L h₁ g₁ F
  rw [bd20]
  conv => arg 3; arg 1; whnf
  have hA' : (A.deeper (envOf (Str.ofString "_law_page") sc20 L 175 (Value.ref 174))).handled = none := hA
  have hR' : (A.deeper (envOf (Str.ofString "_law_page") sc20 L 175 (Value.ref 174))).depth + 1 < recursionLimit := hroom
  generalize A.deeper (envOf (Str.ofString "_law_page") sc20 L 175 (Value.ref 174)) = A' at hA' hR' ⊢
  have B₁ := B.grow g₁
  have z1 := prep_len l
  have z2 := esc_len (prep l)
  refine h_cons (h_ret (h_callF (f := 112) (fo := o112 w.params) (fun q => h_global B₁.g sc20_quotedata sc20_k (mg_quotedata B₁) q) rfl ?_))
  refine hs_cons (h_callF (f := 126) (fo := o126 w.params) (fun q => h_global B₁.g sc20_escape_cdata sc20_k (mg_escape_cdata B₁) q) rfl ?_)
  refine hs_cons (h_callF (f := 161) (fo := o161 w.params) (fun q => h_global B₁.g sc20_law_prepared sc20_k (mg_law_prepared B₁) q) rfl ?_)
  refine hs_cons (h_loc (v := .str (St l) tk) F sc20_text sc20_k (hs_nil ⟨B₁.X _ _ (by k_is), hc.call (hc_mono (c_prep B₁ hA' hR' l tk (by omega)) fun v h₂ q => ?_)⟩))
  obtain ⟨g₂, t₂, rfl⟩ := q
  have B₂ := B₁.grow g₂
  refine hs_nil ⟨B₂.X _ _ (by k_is), hc.call (hc_mono (c_esc B₂ (by omega) (prep l) t₂ (by omega)) fun v h₃ q => ?_)⟩
  obtain ⟨g₃, t₃, rfl⟩ := q
  have B₃ := B₂.grow g₃
  refine hs_nil ⟨B₃.X _ _ (by k_is), hc.call (hc_mono (c_quote B₃ (by omega) (esc (prep l)) t₃ (by omega)) fun v h₄ q => ?_)⟩
  obtain ⟨g₄, t₄, rfl⟩ := q
  exact ⟨g₁.trans (g₂.trans (g₃.trans g₄)), t₄, rfl⟩
end
end Mine
end
/-! part Fn11 -/
section
set_option maxRecDepth 100000
set_option linter.unusedVariables false
open PySem PySem.W
namespace Mine
open PyProof.Rows PySem.Calls
theorem warm11 : PySem.Challenge.rw_st0017_01 = PySem.Challenge.rw_st0017_01 ∧ K = K := by
  k_fill
  exact ⟨rfl, rfl⟩
noncomputable def nothingP (n : Int) : List Nat := [(b1codes.getD (n.fmod 27).toNat 0).toNat]
noncomputable def letterP (n : Int) : List Nat × List Nat := ([(starts.getD ((n.fdiv 26).fmod 11).toNat 0 + n.fmod 26).toNat], [(97 + n.fmod 26).toNat])
noncomputable def plainP (n : Int) : List Nat × List Nat := ([(plains.getD (n.fmod 42).toNat 0).toNat], [(plains.getD (n.fmod 42).toNat 0).toNat])
noncomputable def wordP (n : Int) : List Nat × List Nat := ([(wordsL.getD (n.fmod 19).toNat (0, ⟨#[]⟩)).1.toNat], (wordsL.getD (n.fmod 19).toNat (0, ⟨#[]⟩)).2.cps.toList)
noncomputable def signs3 : List (List Nat × List Nat) := [([38], [38, 97, 109, 112, 59]), ([60], [38, 108, 116, 59]), ([62], [38, 103, 116, 59])]
noncomputable def ends5 : List (List Nat) := [[10], [13], [13, 10], [10], [13]]
noncomputable def endP (r : Int) : List Nat := ends5.getD (r.fmod 5).toNat []
noncomputable def pieceP (n : Int) : List Nat × List Nat :=
  if n.fmod 12 < 7 then (nothingP (n.fdiv 12), [])
  else if n.fmod 12 = 7 then (if (n.fdiv 12).fmod 2 = 0 then letterP ((n.fdiv 12).fdiv 2) else plainP ((n.fdiv 12).fdiv 2))
  else if n.fmod 12 < 10 then wordP (n.fdiv 12)
  else if n.fmod 12 = 10 then signs3.getD ((n.fdiv 12).fmod 3).toNat ([], [])
  else if (n.fdiv 12).fmod 5 < 2 then (endP (n.fdiv 12) ++ [46, 46], [13, 10, 46, 46, 46])
  else if 2 < (n.fdiv 12).fmod 5 then (endP (n.fdiv 12) ++ nothingP ((n.fdiv 12).fdiv 5) ++ [46], [13, 10, 46, 46])
  else (endP (n.fdiv 12) ++ [46], [13, 10, 46, 46])
noncomputable def IsP (v : Value) (p : List Nat × List Nat) (h : Heap) : Prop := IsPair v (St p.1) (St p.2) h
theorem fdiv_bounds {n b : Int} (h0 : 0 ≤ n) (h1 : n < 1000000) (hb : 0 < b) : 0 ≤ n.fdiv b ∧ n.fdiv b < 1000000 := by
  rw [Int.fdiv_eq_ediv_of_nonneg n (by omega)]
  refine ⟨Int.ediv_nonneg h0 (by omega), ?_⟩
  have := Int.ediv_le_self b h0
  omega
noncomputable def csigns : List (List Cn) := signs3.map fun p => [.str (St p.1), .str (St p.2)]
noncomputable def cends : List Cn := ends5.map fun p => .str (St p)

section
variable {w : World} {A : Around} {h : Heap} {mg mb : Str → Option Value}
theorem c_piece (B : Base w mg mb h) (hA : A.handled = none) (hroom : A.depth + 1 < recursionLimit) (n : Int) (tk : Tok) (p0 : 0 ≤ n) (p1 : n < 1000000) :
    hc (model pw w) A (.call (.ref 168) ⟨[.int n tk], []⟩) (fun v h' => Grow h h' ∧ IsP v (pieceP n) h') h := by
  have ho : h.get? 168 = some (o168 w.params) := B.X _ _ (by k_is)
  refine hc_def1 (o := o168 w.params) (name := Str.ofString "_law_piece") (x := Str.ofString "n") (params := ar19) (body := bd19) (scope := sc19) (pm := .str (Str.ofString "law_st0017_01") 2395) (cd := .ref 167) (doc := .none) (v := .int n tk)
    (by omega) ho (by kernel_rfl) B.lim (codeRec_of B.X (by k_is)) (by kernel_rfl) sc19_n (by kernel_rfl) (by kernel_rfl) sc19_k (by kernel_rfl) ?_
  intro L h₁ g₁ F
  rw [bd19]
  conv => arg 3; arg 1; whnf
  have hA' : (A.deeper (envOf (Str.ofString "_law_piece") sc19 L 168 (Value.ref 167))).handled = none := hA
  have hR' : (A.deeper (envOf (Str.ofString "_law_piece") sc19 L 168 (Value.ref 167))).depth < recursionLimit := hroom
  generalize A.deeper (envOf (Str.ofString "_law_piece") sc19 L 168 (Value.ref 167)) = A' at hA' hR' ⊢
  refine h_cons (h_assignS hA' sc19_kind sc19_rest sc19_k ?_ (hw' := by kernel_rfl))
  refine h_Tuple (hs_cons (h_binop (h_loc (v := .int n tk) F sc19_n sc19_k (h_int fun t => i_mod (by decide) fun t1 => ?_))))
  refine hs_cons (h_binop (h_loc (v := .int n tk) F sc19_n sc19_k (h_int fun t => i_div (by decide) p0 p1 (by decide) (by decide) fun t2 => ?_)))
  refine hs_nil (h_newTuple (by show 2 ≤ _; decide) fun a h₂ g₂ n₂ ha => ⟨a, _, _, _, _, rfl, ha, (F.grow g₂).all, fun h₃ F₃ => ?_⟩)
  have R₃ : From h L h₃ := ((From.of F).grow g₂).next F₃
  have B₃ := B.grow R₃.G
  have m0 := Int.fmod_nonneg_of_pos n (b := 12) (by decide)
  have m1 := Int.fmod_lt_of_pos n (b := 12) (by decide)
  obtain ⟨r0, r1⟩ := fdiv_bounds p0 p1 (b := 12) (by decide)
  unfold pieceP
  generalize n.fmod 12 = kd at F₃ m0 m1 ⊢
  generalize n.fdiv 12 = rs at F₃ r0 r1 ⊢
  refine h_cons (h_if (h_test (h_loc (v := .int kd t1) F₃ sc19_kind sc19_k (h_int fun t => i_lt (h_truthy ?_)))))
  by_cases c1 : kd < 7
  · rw [if_pos c1, decide_eq_true c1]
    refine h_cons (h_ret (h_Tuple (hs_cons ?_)))
    refine h_callF (f := 133) (fo := o133 w.params) (fun q => h_global B₃.g sc19_law_nothing sc19_k (mg_law_nothing B₃) q) rfl ?_
    refine hs_cons (h_loc (v := .int rs t2) F₃ sc19_rest sc19_k (hs_nil ⟨B₃.X _ _ (by k_is), hc.call (hc_mono (c_nothing B₃ hA' hR' rs t2) fun v h₄ q => ?_)⟩))
    obtain ⟨g₄, t4, rfl⟩ := q
    refine hs_cons (h_str fun t5 => hs_nil (h_newTuple (by show 2 ≤ _; decide) fun b h₅ g₅ n₅ hb => ⟨R₃.G.trans (g₄.trans g₅), b, _, _, rfl, hb⟩))
  rw [if_neg c1, decide_eq_false c1]
  refine h_nil ?_
  refine h_cons (h_if (h_test (h_loc (v := .int kd t1) F₃ sc19_kind sc19_k (h_int fun t => i_eq (h_truthy ?_)))))
  by_cases c2 : kd = 7
  · rw [if_pos c2, show (kd == 7) = true from beq_iff_eq.mpr c2]
    refine h_cons (h_ret (h_ifexp (h_test (h_binop (h_loc (v := .int rs t2) F₃ sc19_rest sc19_k (h_int fun t => i_mod (by decide) fun t => h_int fun t => i_eq (h_truthy ?_)))))))
    obtain ⟨d0, d1⟩ := fdiv_bounds r0 r1 (b := 2) (by decide)
    by_cases c3 : rs.fmod 2 = 0
    · rw [if_pos c3, show (rs.fmod 2 == 0) = true from beq_iff_eq.mpr c3]
      refine h_callF (f := 140) (fo := o140 w.params) (fun q => h_global B₃.g sc19_law_letter sc19_k (mg_law_letter B₃) q) rfl ?_
      refine hs_cons (h_binop (h_loc (v := .int rs t2) F₃ sc19_rest sc19_k (h_int fun t => i_div (by decide) r0 r1 (by decide) (by decide) fun t6 => hs_nil ?_)))
      exact ⟨B₃.X _ _ (by k_is), hc.call (hc_mono (c_letter B₃ hR' (rs.fdiv 2) t6 d0 d1) fun v h₄ q => ⟨R₃.G.trans q.1, q.2⟩)⟩
    · rw [if_neg c3, show (rs.fmod 2 == 0) = false from beq_eq_false_iff_ne.mpr c3]
      refine h_callF (f := 147) (fo := o147 w.params) (fun q => h_global B₃.g sc19_law_plain sc19_k (mg_law_plain B₃) q) rfl ?_
      refine hs_cons (h_binop (h_loc (v := .int rs t2) F₃ sc19_rest sc19_k (h_int fun t => i_div (by decide) r0 r1 (by decide) (by decide) fun t6 => hs_nil ?_)))
      exact ⟨B₃.X _ _ (by k_is), hc.call (hc_mono (c_plain B₃ hA' hR' (rs.fdiv 2) t6) fun v h₄ q => ⟨R₃.G.trans q.1, q.2⟩)⟩
  rw [if_neg c2, show (kd == 7) = false from beq_eq_false_iff_ne.mpr c2]
  refine h_nil ?_
  refine h_cons (h_if (h_test (h_loc (v := .int kd t1) F₃ sc19_kind sc19_k (h_int fun t => i_lt (h_truthy ?_)))))
  by_cases c3 : kd < 10
  · rw [if_pos c3, decide_eq_true c3]
    refine h_cons (h_ret (h_callF (f := 154) (fo := o154 w.params) (fun q => h_global B₃.g sc19_law_word sc19_k (mg_law_word B₃) q) rfl ?_))
    refine hs_cons (h_loc (v := .int rs t2) F₃ sc19_rest sc19_k (hs_nil ⟨B₃.X _ _ (by k_is), hc.call (hc_mono (c_word B₃ hA' hR' rs t2) fun v h₄ q => ⟨R₃.G.trans q.1, q.2⟩)⟩))
  rw [if_neg c3, decide_eq_false c3]
  refine h_nil ?_
  refine h_cons (h_if (h_test (h_loc (v := .int kd t1) F₃ sc19_kind sc19_k (h_int fun t => i_eq (h_truthy ?_)))))
  by_cases c4 : kd = 10
  · rw [if_pos c4, show (kd == 10) = true from beq_iff_eq.mpr c4]
    have e0 := Int.fmod_nonneg_of_pos rs (b := 3) (by decide)
    have e1 := Int.fmod_lt_of_pos rs (b := 3) (by decide)
    refine h_cons (h_ret (h_sub (h_List (hs_tuples (css := csigns) (by kernel_rfl) (by intro cs q; obtain ⟨x, _, rfl⟩ := List.mem_map.mp q; show 2 ≤ _; decide) fun vs h₄ g₄ hv => h_newList (by rw [hv.length]; decide) fun l h₅ g₅ n₅ hl => ?_))))
    refine h_binop (h_loc (v := .int rs t2) (F₃.grow (g₄.trans g₅)) sc19_rest sc19_k (h_int fun t => i_mod (by decide) fun t => ?_))
    have hj : (rs.fmod 3).toNat < signs3.length := by rw [show signs3.length = 3 from rfl]; omega
    obtain ⟨a, ws, e1, e2, e3⟩ := (hv.grow g₅).get (rs.fmod 3).toNat (by rw [csigns, List.length_map]; exact hj)
    refine l_item hl e0 e1 (by omega) ⟨R₃.G.trans (g₄.trans g₅), ?_⟩
    rw [csigns, List.getD_eq_getElem?_getD, List.getElem?_map, List.getElem?_eq_getElem hj] at e3
    rw [List.getD_eq_getElem?_getD, List.getElem?_eq_getElem hj]
    generalize signs3[(rs.fmod 3).toNat] = q at e3 ⊢
    simp only [Option.map_some, Option.getD_some] at e3 ⊢
    cases e3 with | cons x1 r => cases r with | cons x2 r => cases r with | nil => cases x1 with | str _ t1 => cases x2 with | str _ t2 => exact ⟨a, _, _, rfl, e2⟩
  rw [if_neg c4, show (kd == 10) = false from beq_eq_false_iff_ne.mpr c4]
  refine h_nil ?_
  have e0 := Int.fmod_nonneg_of_pos rs (b := 5) (by decide)
  have e1 := Int.fmod_lt_of_pos rs (b := 5) (by decide)
  refine h_cons (h_assign sc19_end sc19_k (h_sub (h_List (hs_consts (cs := cends) (by kernel_rfl) fun vs hv => h_newList (by rw [hv.length]; decide) fun l h₅ g₅ n₅ hl => ?_))))
  refine h_binop (h_loc (v := .int rs t2) (F₃.grow g₅) sc19_rest sc19_k (h_int fun t => i_mod (by decide) fun t => ?_))
  have hj : (rs.fmod 5).toNat < ends5.length := by rw [show ends5.length = 5 from rfl]; omega
  obtain ⟨v, e2, e3⟩ := hv.get (rs.fmod 5).toNat (by rw [cends, List.length_map]; exact hj)
  refine l_item hl e0 e2 (by omega) ⟨_, _, F₃.grow g₅, fun h₆ F₆ => ?_⟩
  obtain ⟨t7, rfl⟩ : ∃ t7, v = .str (St (endP rs)) t7 := by
    rw [cends, List.getD_eq_getElem?_getD, List.getElem?_map, List.getElem?_eq_getElem hj] at e3
    rw [endP, List.getD_eq_getElem?_getD, List.getElem?_eq_getElem hj]
    generalize ends5[(rs.fmod 5).toNat] = q at e3 ⊢
    simp only [Option.map_some, Option.getD_some] at e3 ⊢
    cases e3 with | str _ t => exact ⟨t, rfl⟩
  have hend : (endP rs).length ≤ 2 := by
    have hb : ∀ j < 5, (ends5.getD j []).length ≤ 2 := by decide
    exact hb _ hj
  have e20 : (2 : Nat) ^ 20 = 1048576 := by decide
  have sl : ∀ l : List Nat, (St l).length = l.length := fun l => by show Array.size _ = _; simp
  have G₆ : Grow h h₆ := fun b o e => F₆.keep b o (R₃.go b o e |> fun q => by
    have q0 := ((From.of F).grow g₂).go b o e
    exact q0)
  have B₆ := B.grow G₆
  refine h_cons (h_if (h_test (h_binop (h_loc (v := .int rs t2) F₆ sc19_rest sc19_k (h_int fun t => i_mod (by decide) fun t => h_int fun t => i_lt (h_truthy ?_))))))
  by_cases c5 : rs.fmod 5 < 2
  · rw [if_pos c5, decide_eq_true c5]
    refine h_cons (h_ret (h_Tuple (hs_cons (h_binop (h_loc (v := .str (St (endP rs)) t7) F₆ sc19_end sc19_k (h_str fun t8 => ?_))))))
    rw [show Str.ofString ".." = St [46, 46] by kernel_rfl]
    refine s_add (by rw [sl, sl]; simp; omega) fun t9 => hs_cons (h_str fun t10 => ?_)
    rw [show Str.ofString "\r\n..." = St [13, 10, 46, 46, 46] by kernel_rfl, St_append]
    exact hs_nil (h_newTuple (by show 2 ≤ _; decide) fun b h₈ g₈ n₈ hb => ⟨G₆.trans g₈, b, _, _, rfl, hb⟩)
  rw [if_neg c5, decide_eq_false c5]
  refine h_nil ?_
  refine h_cons (h_if (h_test (h_binop (h_loc (v := .int rs t2) F₆ sc19_rest sc19_k (h_int fun t => i_mod (by decide) fun t => h_int fun t => i_gt (h_truthy ?_))))))
  by_cases c6 : 2 < rs.fmod 5
  · rw [if_pos c6, decide_eq_true c6]
    refine h_cons (h_assign sc19_end sc19_k (h_binop (h_loc (v := .str (St (endP rs)) t7) F₆ sc19_end sc19_k ?_)))
    refine h_callF (f := 133) (fo := o133 w.params) (fun q => h_global B₆.g sc19_law_nothing sc19_k (mg_law_nothing B₆) q) rfl ?_
    refine hs_cons (h_binop (h_loc (v := .int rs t2) F₆ sc19_rest sc19_k (h_int fun t => i_div (by decide) r0 r1 (by decide) (by decide) fun t8 => ?_)))
    refine hs_nil ⟨B₆.X _ _ (by k_is), hc.call (hc_mono (c_nothing B₆ hA' hR' (rs.fdiv 5) t8) fun v h₇ q => ?_)⟩
    obtain ⟨g₇, t9, rfl⟩ := q
    rw [show (⟨#[(b1codes.getD ((rs.fdiv 5).fmod 27).toNat 0).toNat]⟩ : Str) = St (nothingP (rs.fdiv 5)) from rfl]
    refine s_add (by rw [sl, sl]; show _ + 1 ≤ _; omega) fun t10 => ?_
    rw [St_append]
    refine ⟨_, _, F₆.grow g₇, fun h₈ F₈ => h_nil ?_⟩
    have G₈ : Grow h h₈ := fun b o e => F₈.keep b o (by
      have q0 := ((From.of F).grow g₂).go b o e
      exact q0)
    refine h_cons (h_ret (h_Tuple (hs_cons (h_binop (h_loc (v := .str (St (endP rs ++ nothingP (rs.fdiv 5))) t10) F₈ sc19_end sc19_k (h_str fun t11 => ?_))))))
    rw [show Str.ofString "." = St [46] by kernel_rfl]
    refine s_add (by rw [sl, sl, List.length_append]; show _ + 1 + 1 ≤ _; omega) fun t9 => hs_cons (h_str fun t10 => ?_)
    rw [show Str.ofString "\r\n.." = St [13, 10, 46, 46] by kernel_rfl, St_append]
    exact hs_nil (h_newTuple (by show 2 ≤ _; decide) fun b h₉ g₉ n₉ hb => ⟨G₈.trans g₉, b, _, _, rfl, hb⟩)
  rw [if_neg c6, decide_eq_false c6]
  refine h_nil ?_
  refine h_cons (h_ret (h_Tuple (hs_cons (h_binop (h_loc (v := .str (St (endP rs)) t7) F₆ sc19_end sc19_k (h_str fun t8 => ?_))))))
  rw [show Str.ofString "." = St [46] by kernel_rfl]
  refine s_add (by rw [sl, sl]; simp; omega) fun t9 => hs_cons (h_str fun t10 => ?_)
  rw [show Str.ofString "\r\n.." = St [13, 10, 46, 46] by kernel_rfl, St_append]
  exact hs_nil (h_newTuple (by show 2 ≤ _; decide) fun b h₈ g₈ n₈ hb => ⟨G₆.trans g₈, b, _, _, rfl, hb⟩)
end
end Mine
end
/-! part Fp1 -/
section
set_option maxRecDepth 100000
set_option linter.unusedVariables false
namespace Mine
open PySem
noncomputable abbrev PP := List Nat × List Nat
noncomputable def fillL : List Int := [22, 0, 13, 59, 26, 631, 39, 52]
noncomputable def nums1 (ks : List Int) : List Int := (ks.take 8).map fun k => k.fmod 1000000
noncomputable def numsOf (ks : List Int) : List Int := nums1 ks ++ fillL.drop (nums1 ks).length
noncomputable def ringOf (ks : List Int) : List PP := (numsOf ks).map pieceP
noncomputable def rot (r : List PP) (s : Nat) : List PP := r.drop s ++ r.take s
noncomputable def cat1 (ps : List PP) : List Nat := ps.flatMap (·.1)
noncomputable def cat2 (ps : List PP) : List Nat := ps.flatMap (·.2)
noncomputable def dif (ps : List PP) : Int := ((cat1 ps).length : Int) - ((cat2 ps).length : Int)
noncomputable def belowB (ps : List PP) (i : Nat) : Bool := (List.range i).all fun j => decide (0 < dif (ps.take (j + 1)))
noncomputable def goods (r : List PP) (i : Nat) : List Int := ((List.range i).filter fun s => belowB (rot r s) 8).map fun s : Nat => (s : Int)
noncomputable def pop1 (x : List Int × Int) : List Int × Int := if x.1 = [] then (x.1, x.2 + 1) else (x.1.dropLast, x.2)
noncomputable def popN : Nat → List Int × Int → List Int × Int
  | 0, x => x
  | n + 1, x => pop1 (popN n x)
noncomputable def wpush (x : List Int × Int) (place : Nat) (p : PP) : List Int × Int := (if p.2 = [] then x.1 ++ [(place : Int)] else x.1, x.2)
noncomputable def wneed (p : PP) : Int := (p.2.length : Int) - (p.1.length : Int)
noncomputable def waits (r : List PP) : Nat → List Int × Int
  | 0 => ([], 0)
  | i + 1 => popN (wneed (r.getD i ([], []))).toNat (wpush (waits r i) i (r.getD i ([], [])))
theorem cat1_take {r : List PP} {i : Nat} (h : i < r.length) : cat1 (r.take (i + 1)) = cat1 (r.take i) ++ (r[i]).1 := by
  rw [List.take_add_one, List.getElem?_eq_getElem h]
  rw [cat1, List.flatMap_append, cat1]
  simp
theorem cat2_take {r : List PP} {i : Nat} (h : i < r.length) : cat2 (r.take (i + 1)) = cat2 (r.take i) ++ (r[i]).2 := by
  rw [List.take_add_one, List.getElem?_eq_getElem h]
  rw [cat2, List.flatMap_append, cat2]
  simp
theorem belowB_succ (ps : List PP) (i : Nat) : belowB ps (i + 1) = (belowB ps i && decide (0 < dif (ps.take (i + 1)))) := by
  simp [belowB, List.range_succ]
theorem goods_succ (r : List PP) (i : Nat) : goods r (i + 1) = goods r i ++ (if belowB (rot r i) 8 then [(i : Int)] else []) := by
  rw [goods, List.range_succ, List.filter_append, List.map_append, goods]
  congr 1
  by_cases q : belowB (rot r i) 8 <;> simp [q]
theorem nums_bound (ks : List Int) : ∀ n ∈ numsOf ks, 0 ≤ n ∧ n < 1000000 := by
  intro n h
  rcases List.mem_append.mp h with h | h
  · obtain ⟨k, _, rfl⟩ := List.mem_map.mp h
    exact ⟨Int.fmod_nonneg_of_pos k (by decide), Int.fmod_lt_of_pos k (by decide)⟩
  · have : ∀ n ∈ fillL, 0 ≤ n ∧ n < 1000000 := by decide
    exact this n (List.mem_of_mem_drop h)
theorem nums_len (ks : List Int) : (numsOf ks).length = 8 := by
  rw [numsOf, List.length_append, List.length_drop, nums1, List.length_map, List.length_take, show fillL.length = 8 from rfl]
  omega
theorem ring_len (ks : List Int) : (ringOf ks).length = 8 := by rw [ringOf, List.length_map, nums_len]
theorem rot_len (r : List PP) (s : Nat) : (rot r s).length = r.length := by
  rw [rot, List.length_append, List.length_drop, List.length_take]; omega
theorem pop1_len (x : List Int × Int) : (pop1 x).1.length ≤ x.1.length := by
  unfold pop1
  split
  · exact Nat.le_refl _
  · simp
theorem popN_len : ∀ (n : Nat) (x : List Int × Int), (popN n x).1.length ≤ x.1.length
  | 0, x => Nat.le_refl _
  | n + 1, x => Nat.le_trans (pop1_len _) (popN_len n x)
theorem wpush_len (x : List Int × Int) (i : Nat) (p : PP) : (wpush x i p).1.length ≤ x.1.length + 1 := by
  show (if p.2 = [] then x.1 ++ [(i : Int)] else x.1).length ≤ _
  split <;> simp
theorem waits_len (r : List PP) : ∀ i, (waits r i).1.length ≤ i
  | 0 => Nat.le_refl _
  | i + 1 => by
    have h1 := popN_len (wneed (r.getD i ([], []))).toNat (wpush (waits r i) i (r.getD i ([], [])))
    have h2 := wpush_len (waits r i) i (r.getD i ([], []))
    have h3 := waits_len r i
    show (popN _ _).1.length ≤ _
    omega
end Mine
end
/-! part Fp2 -/
section
set_option maxRecDepth 100000
set_option linter.unusedVariables false
namespace Mine
open PySem
/-! the line ends, the dots -/
noncomputable def nl : List Nat → List Nat
  | [] => []
  | 13 :: 10 :: r => 13 :: 10 :: nl r
  | 13 :: r => 13 :: 10 :: nl r
  | 10 :: r => 13 :: 10 :: nl r
  | c :: r => c :: nl r
noncomputable def dots : Bool → List Nat → List Nat
  | _, [] => []
  | b, c :: r => if c = 46 then (if b then 46 :: 46 :: dots false r else 46 :: dots false r) else c :: dots (c == 10) r
theorem getD_drop {l : List Nat} {p c : Nat} {r : List Nat} (e : l.drop p = c :: r) : l.toArray.getD p 0 = c ∧ p < l.toArray.size ∧ l.drop (p + 1) = r := by
  have h1 : p < l.length := by
    rcases Nat.lt_or_ge p l.length with h | h
    · exact h
    · rw [List.drop_of_length_le h] at e; cases e
  have h2 := List.drop_eq_getElem_cons h1
  rw [e] at h2
  injection h2 with h3 h4
  refine ⟨?_, by simpa using h1, h4.symm⟩
  simp [Array.getD, h1, h3]
theorem nl_go (l : List Nat) : ∀ (r : List Nat) (n p : Nat), l.drop p = r → l.toArray.size - p ≤ n → subGo (hitB l.toArray) [13, 10] l.toArray n p = nl r := by
  intro r
  induction r using nl.induct with
  | case1 =>
    intro n p e hn
    have h1 : l.length ≤ p := by
      rcases Nat.lt_or_ge p l.length with h | h
      · rw [List.drop_eq_getElem_cons h] at e; cases e
      · exact h
    cases n with
    | zero => rfl
    | succ n => unfold subGo; rw [if_neg (by simp; omega)]; rfl
  | case2 r ih =>
    intro n p e hn
    obtain ⟨e1, e2, e3⟩ := getD_drop e
    obtain ⟨e4, e5, e6⟩ := getD_drop e3
    cases n with
    | zero => omega
    | succ n =>
      unfold subGo
      rw [if_pos e2]
      have : hitB l.toArray p = some (p + 2) := by unfold hitB; rw [if_pos e2, if_pos e1, if_pos ⟨e5, e4⟩]
      rw [this]
      dsimp only
      rw [ih n (p + 2) e6 (by omega), nl]
      rfl
  | case3 r hr ih =>
    intro n p e hn
    obtain ⟨e1, e2, e3⟩ := getD_drop e
    cases n with
    | zero => omega
    | succ n =>
      unfold subGo
      rw [if_pos e2]
      have : hitB l.toArray p = some (p + 1) := by
        unfold hitB
        rw [if_pos e2, if_pos e1, if_neg]
        rintro ⟨q1, q2⟩
        cases r with
        | nil =>
          have : l.length ≤ p + 1 := by
            rcases Nat.lt_or_ge (p + 1) l.length with h | h
            · rw [List.drop_eq_getElem_cons h] at e3; cases e3
            · exact h
          simp at q1; omega
        | cons c r' =>
          obtain ⟨f1, _, _⟩ := getD_drop e3
          rw [f1] at q2
          subst q2
          exact hr r' rfl
      rw [this]
      dsimp only
      rw [ih n (p + 1) e3 (by omega), nl]
      · rfl
      · exact hr
  | case4 r ih =>
    intro n p e hn
    obtain ⟨e1, e2, e3⟩ := getD_drop e
    cases n with
    | zero => omega
    | succ n =>
      unfold subGo
      rw [if_pos e2]
      have : hitB l.toArray p = some (p + 1) := by unfold hitB; rw [if_pos e2, if_neg (by rw [e1]; decide), if_pos e1]
      rw [this]
      dsimp only
      rw [ih n (p + 1) e3 (by omega), nl]
      rfl
  | case5 c r h1 h2 h3 ih =>
    intro n p e hn
    obtain ⟨e1, e2, e3⟩ := getD_drop e
    have c13 : c ≠ 13 := fun q => h2 q
    have c10 : c ≠ 10 := fun q => h3 q
    cases n with
    | zero => omega
    | succ n =>
      unfold subGo
      rw [if_pos e2]
      have : hitB l.toArray p = none := by unfold hitB; rw [if_pos e2, if_neg (by rw [e1]; exact c13), if_neg (by rw [e1]; exact c10)]
      rw [this]
      dsimp only
      rw [ih n (p + 1) e3 (by omega), e1, nl]
      · exact h1
      · exact h2
      · exact h3
theorem dots_go (l : List Nat) : ∀ (r : List Nat) (n p : Nat), l.drop p = r → l.toArray.size - p ≤ n → subGo (hitA l.toArray) [46, 46] l.toArray n p = dots (p == 0 || l.toArray.getD (p - 1) 0 == 10) r
  | [], n, p, e, hn => by
    have h1 : l.length ≤ p := by
      rcases Nat.lt_or_ge p l.length with h | h
      · rw [List.drop_eq_getElem_cons h] at e; cases e
      · exact h
    cases n with
    | zero => rfl
    | succ n => unfold subGo; rw [if_neg (by simp; omega)]; rfl
  | c :: r, n, p, e, hn => by
    obtain ⟨e1, e2, e3⟩ := getD_drop e
    cases n with
    | zero => omega
    | succ n =>
      have ih := dots_go l r n (p + 1) e3 (by omega)
      rw [Nat.add_sub_cancel, e1, show ((p + 1) == 0) = false from rfl, Bool.false_or] at ih
      unfold subGo
      rw [if_pos e2, dots]
      by_cases c46 : c = 46
      · subst c46
        rw [if_pos rfl]
        cases hb : (p == 0 || l.toArray.getD (p - 1) 0 == 10) with
        | true =>
          have : hitA l.toArray p = some (p + 1) := by unfold hitA; rw [hb, e1, decide_eq_true e2]; rfl
          rw [this, if_pos rfl]
          dsimp only
          rw [ih]; rfl
        | false =>
          have : hitA l.toArray p = none := by unfold hitA; rw [hb]; rfl
          rw [this, if_neg (by decide)]
          dsimp only
          rw [ih, e1]; rfl
      · have : hitA l.toArray p = none := by
          unfold hitA
          rw [if_neg]
          rw [e1]
          simp [c46]
        rw [this, if_neg c46]
        dsimp only
        rw [ih, e1]
theorem quote_eq (l : List Nat) : quote l = dots true (nl l) := by
  unfold quote subL subFrom
  rw [dots_go _ _ _ _ rfl (Nat.le_refl _), nl_go l l _ 0 rfl (Nat.le_refl _)]
  rfl
end Mine
end
/-! part Fp3 -/
section
set_option maxRecDepth 100000
set_option linter.unusedVariables false
namespace Mine
open PySem
/-! what the table says of the pieces' signs -/
noncomputable def covers : List (Int × Str) → List (Int × List Nat) → Bool
  | _, [] => true
  | [], _ :: _ => false
  | x :: l, e :: es => if x.1 = e.1 then (x.2.cps.toList == e.2) && covers l es else covers l (e :: es)
noncomputable def sortedK : List (Int × Str) → Bool
  | x :: y :: r => decide (x.1 < y.1) && sortedK (y :: r)
  | _ => true
theorem sorted_lt : ∀ {l : List (Int × Str)} {x : Int × Str} {k : Int} {s : Str}, sortedK (x :: l) = true → findP l k = some s → x.1 < k
  | [], x, k, s, _, h => by cases h
  | y :: r, x, k, s, hs, h => by
    simp only [sortedK, Bool.and_eq_true, decide_eq_true_eq] at hs
    rw [findP] at h
    split at h
    · rename_i q; rw [← q]; exact hs.1
    · have := sorted_lt hs.2 h
      omega
theorem covers_find : ∀ {l : List (Int × Str)} {es : List (Int × List Nat)}, sortedK l = true → covers l es = true → ∀ e ∈ es, ∃ s, findP l e.1 = some s ∧ s.cps.toList = e.2
  | _, [], _, _, e, h => by cases h
  | [], _ :: _, _, h, _, _ => by simp [covers] at h
  | x :: l, e :: es, hs, hc, e', he' => by
    have hs' : sortedK l = true := by
      cases l with
      | nil => rfl
      | cons y r => simp only [sortedK, Bool.and_eq_true] at hs; exact hs.2
    have up : ∀ {k : Int} {s : Str}, findP l k = some s → findP (x :: l) k = some s := fun {k s} h => by
      have := sorted_lt hs h
      rw [findP, if_neg (by omega)]; exact h
    rw [covers] at hc
    split at hc
    · rename_i q
      simp only [Bool.and_eq_true, beq_iff_eq] at hc
      cases he' with
      | head => exact ⟨x.2, by rw [findP, if_pos q], hc.1⟩
      | tail _ q' =>
        obtain ⟨s, h1, h2⟩ := covers_find hs' hc.2 e' q'
        exact ⟨s, up h1, h2⟩
    · obtain ⟨s, h1, h2⟩ := covers_find hs' hc e' he'
      exact ⟨s, up h1, h2⟩
noncomputable def letE : List (Int × List Nat) := (starts.drop 1).flatMap fun s => (List.range 26).map fun k : Nat => (s + (k : Int), [97 + k])
noncomputable def wordE : List (Int × List Nat) := [(223, [115, 115]), (8360, [114, 115]), (8470, [110, 111]), (8480, [115, 109]), (8481, [116, 101, 108]), (8482, [116, 109]), (13169, [104, 112, 97]), (13184, [112, 97]), (13188, [107, 97]), (13201, [107, 104, 122]), (13202, [109, 104, 122]), (13226, [107, 112, 97]), (64256, [102, 102]), (64257, [102, 105]), (64258, [102, 108]), (64259, [102, 102, 105]), (64260, [102, 102, 108]), (64261, [115, 116]), (64262, [115, 116])]
theorem b3sorted : sortedK b3pairs = true := by decide +kernel
theorem b3covers : covers b3pairs (wordE ++ letE) = true := by decide +kernel
theorem fold_of {c : Nat} {l : List Nat} (h : ((c : Int), l) ∈ wordE ++ letE) : (fold c).cps.toList = l := by
  obtain ⟨s, h1, h2⟩ := covers_find b3sorted b3covers _ h
  rw [fold, b3get, h1]; exact h2
noncomputable def upN (a n : Nat) : List Nat := (List.range n).map (a + ·)
noncomputable def absLo : List Nat := [10, 13, 38, 46, 60, 62] ++ upN 65 26 ++ upN 97 26 ++ [172, 174]
noncomputable def absHi : List Nat := [846, 848, 6149, 6151, 6154, 6158, 8202, 8206, 8287, 8289, 65023, 65040, 65278, 65280]
noncomputable def absL : List Nat := absLo ++ absHi
noncomputable def low (c : Nat) : Nat := if 65 ≤ c ∧ c ≤ 90 then c + 32 else c
noncomputable def absentAll (l : List (Int × Str)) (cs : List Nat) : Bool := l.all fun x => cs.all fun c => !decide (x.1 = (c : Int))
theorem absent_find : ∀ {l : List (Int × Str)} {cs : List Nat}, absentAll l cs = true → ∀ c ∈ cs, findP l (c : Int) = none
  | [], _, _, _, _ => rfl
  | x :: l, cs, h, c, hc => by
    simp only [absentAll, List.all_cons, Bool.and_eq_true] at h
    have h1 := List.all_eq_true.mp h.1 c hc
    rw [findP, if_neg (by simpa using h1)]
    exact absent_find h.2 c hc
theorem b3hi : absentAll b3pairs absHi = true := by decide +kernel
theorem b3lo : (b3pairs.all fun x => decide (174 < x.1)) = true := by decide +kernel
theorem lo_find : ∀ {l : List (Int × Str)}, (l.all fun x => decide (174 < x.1)) = true → ∀ c : Nat, c ≤ 174 → findP l (c : Int) = none
  | [], _, _, _ => rfl
  | x :: l, h, c, hc => by
    simp only [List.all_cons, Bool.and_eq_true, decide_eq_true_eq] at h
    rw [findP, if_neg (by omega)]
    exact lo_find h.2 c hc
theorem b3absent {c : Nat} (h : c ∈ absL) : findP b3pairs (c : Int) = none := by
  rcases List.mem_append.mp h with h | h
  · have : ∀ c ∈ absLo, c ≤ 174 := by decide
    exact lo_find b3lo c (this c h)
  · exact absent_find b3hi c h
theorem lows : ∀ c ∈ absL, (Txt.lower ⟨#[c]⟩).cps.toList = [low c] := by decide +kernel
theorem fold_abs {c : Nat} (h : c ∈ absL) : (fold c).cps.toList = [low c] := by
  rw [fold, b3get, b3absent h]
  exact lows c h
end Mine
end
/-! part Fp4 -/
section
set_option maxRecDepth 100000
set_option linter.unusedVariables false
namespace Mine
open PySem
noncomputable def ep (l : List Nat) : List Nat := esc (prep l)
theorem esc_append (a b : List Nat) : esc (a ++ b) = esc a ++ esc b := by simp only [esc, esc1_append]
theorem ep_append (a b : List Nat) : ep (a ++ b) = ep a ++ ep b := by
  rw [ep, show prep (a ++ b) = prep a ++ prep b from List.flatMap_append, esc_append]; rfl
theorem ep_one (c : Nat) : ep [c] = esc (prep1 c) := by
  rw [ep, show prep [c] = prep1 c from by simp [prep]]
theorem prep1_of {c : Nat} {l : List Nat} (hb : b1in c = false) (h : (fold c).cps.toList = l) : prep1 c = l := by
  rw [prep1, if_neg (by rw [hb]; decide), h]
theorem b1abs : ∀ c ∈ absL, b1in (c : Nat) = false := by decide +kernel
theorem b1E : ∀ e ∈ wordE ++ letE, b1in e.1 = false := by decide +kernel
theorem prep_abs {c : Nat} (h : c ∈ absL) : prep1 c = [low c] := prep1_of (b1abs c h) (fold_abs h)
theorem prep_E {c : Nat} {l : List Nat} (h : ((c : Int), l) ∈ wordE ++ letE) : prep1 c = l := prep1_of (b1E _ h) (fold_of h)

noncomputable def okc (c : Nat) : Bool := c != 10 && c != 13 && c != 46
/-- a piece's kind: what is left of it, and what is sent -/
inductive Blk (u y : List Nat) : Prop
  | none : u = [] → y = [] → Blk u y
  | plain : u = y → y ≠ [] → y.all okc = true → Blk u y
  | line (e d : List Nat) : u = e ++ d → (e = [10] ∨ e = [13] ∨ e = [13, 10]) → (d = [46] ∨ d = [46, 46]) → y = [13, 10, 46] ++ d → Blk u y

theorem nl_ok : ∀ (u r : List Nat), u.all okc = true → nl (u ++ r) = u ++ nl r
  | [], r, _ => rfl
  | c :: u, r, h => by
    simp only [List.all_cons, Bool.and_eq_true] at h
    have hc := h.1
    simp only [okc, Bool.and_eq_true, bne_iff_ne] at hc
    rw [List.cons_append, nl]
    · rw [nl_ok u r h.2]; rfl
    · intro r' e1 e2; exact hc.1.2 e1
    · exact hc.1.2
    · exact hc.1.1
theorem dots_ok : ∀ (u r : List Nat) (b : Bool), u ≠ [] → u.all okc = true → dots b (u ++ r) = u ++ dots false r
  | [], _, _, h, _ => absurd rfl h
  | c :: u, r, b, _, h => by
    simp only [List.all_cons, Bool.and_eq_true] at h
    have hc := h.1
    simp only [okc, Bool.and_eq_true, bne_iff_ne] at hc
    rw [List.cons_append, dots, if_neg hc.2, show (c == 10) = false from beq_eq_false_iff_ne.mpr hc.1.1]
    cases u with
    | nil => rfl
    | cons d u => rw [dots_ok (d :: u) r false (by simp) h.2]; rfl
theorem blk_step {u y : List Nat} (h : Blk u y) (b : Bool) (r : List Nat) : ∃ b', dots b (nl (u ++ r)) = y ++ dots b' (nl r) := by
  cases h with
  | none e1 e2 => subst e1 e2; exact ⟨b, rfl⟩
  | plain e1 hn ho =>
    subst e1
    exact ⟨false, by rw [nl_ok _ _ ho, dots_ok _ _ _ hn ho]⟩
  | line e d e1 he hd e2 =>
    subst e1 e2
    refine ⟨false, ?_⟩
    rcases he with rfl | rfl | rfl <;> rcases hd with rfl | rfl <;> cases b <;> simp [nl, dots]
noncomputable def Blks (ps : List PP) : Prop := ∀ p ∈ ps, Blk (ep p.1) p.2
theorem ep_cat (ps : List PP) : ep (cat1 ps) = ps.flatMap fun p => ep p.1 := by
  induction ps with
  | nil => rfl
  | cons p ps ih =>
    rw [show cat1 (p :: ps) = p.1 ++ cat1 ps from by simp [cat1], ep_append, ih]
    simp
theorem blks_go : ∀ (ps : List PP) (b : Bool), Blks ps → dots b (nl (ep (cat1 ps))) = cat2 ps
  | [], b, _ => by cases b <;> rfl
  | p :: ps, b, h => by
    rw [show cat1 (p :: ps) = p.1 ++ cat1 ps from by simp [cat1], ep_append]
    obtain ⟨b', e⟩ := blk_step (h p (by simp)) b (ep (cat1 ps))
    rw [e, blks_go ps b' fun q hq => h q (by simp [hq])]
    simp [cat2]
theorem page_cat {ps : List PP} (h : Blks ps) : page (cat1 ps) = cat2 ps := by
  rw [page, quote_eq]
  exact blks_go ps true h
theorem page_dots {ps : List PP} (h : Blks ps) : page ([46, 10, 46] ++ cat1 ps) = [46, 46, 13, 10, 46, 46] ++ cat2 ps := by
  rw [page, quote_eq]
  show dots true (nl (ep ([46, 10, 46] ++ cat1 ps))) = _
  have e46 : ep [46] = [46] := by rw [ep_one, prep_abs (by decide)]; rfl
  have e10 : ep [10] = [10] := by rw [ep_one, prep_abs (by decide)]; rfl
  have e3 : ep [46, 10, 46] = [46, 10, 46] := by
    rw [show [46, 10, 46] = [46] ++ ([10] ++ [46]) from rfl, ep_append, ep_append, e46, e10]
  rw [ep_append, e3, ← blks_go ps false h]
  simp [nl, dots]

/-! each piece is of a kind -/
theorem blk_abs {c : Nat} {y : List Nat} (h : c ∈ absL) (hy : esc [low c] = y) (hn : y ≠ []) (ho : y.all okc = true) : Blk (ep [c]) y := by
  refine .plain ?_ hn ho
  rw [ep_one, prep_abs h, hy]
theorem blk_E {c : Nat} {y : List Nat} (h : ((c : Int), y) ∈ wordE ++ letE) (hy : esc y = y) (hn : y ≠ []) (ho : y.all okc = true) : Blk (ep [c]) y := by
  refine .plain ?_ hn ho
  rw [ep_one, prep_E h, hy]
theorem blk_nothing (n : Int) : ep (nothingP n) = [] := by
  have m0 := Int.fmod_nonneg_of_pos n (b := 27) (by decide)
  have m1 := Int.fmod_lt_of_pos n (b := 27) (by decide)
  have hb : ∀ j < 27, b1in (((b1codes.getD j 0).toNat : Nat) : Int) = true := by decide +kernel
  rw [nothingP, ep_one, prep1, if_pos (hb (n.fmod 27).toNat (by omega))]
  rfl
theorem blk_letter (n : Int) (h : 0 ≤ n) : Blk (ep (letterP n).1) (letterP n).2 := by
  have m0 := Int.fmod_nonneg_of_pos n (b := 26) (by decide)
  have m1 := Int.fmod_lt_of_pos n (b := 26) (by decide)
  have d0 := Int.fmod_nonneg_of_pos (n.fdiv 26) (b := 11) (by decide)
  have d1 := Int.fmod_lt_of_pos (n.fdiv 26) (b := 11) (by decide)
  unfold letterP
  dsimp only
  obtain ⟨k, hk⟩ := Int.eq_ofNat_of_zero_le m0
  obtain ⟨j, hj⟩ := Int.eq_ofNat_of_zero_le d0
  rw [hk, hj]
  have hk' : k < 26 := by omega
  have hj' : j < 11 := by omega
  rw [Int.toNat_natCast]
  have hy : ((97 : Int) + (k : Int)).toNat = 97 + k := by omega
  rw [hy]
  have ho : ∀ k < 26, esc [97 + k] = [97 + k] ∧ [97 + k].all okc = true := by decide
  obtain ⟨o1, o2⟩ := ho k hk'
  cases j with
  | zero =>
    have hc : (starts.getD 0 0 + (k : Int)).toNat = 65 + k := by rw [show starts.getD 0 0 = 65 from rfl]; omega
    rw [hc]
    have : ∀ k < 26, 65 + k ∈ absL ∧ low (65 + k) = 97 + k := by decide
    obtain ⟨q1, q2⟩ := this k hk'
    exact blk_abs q1 (by rw [q2]; exact o1) (by simp) o2
  | succ j =>
    have hs : ∀ j < 10, 0 ≤ starts.getD (j + 1) 0 := by decide
    have q0 := hs j (by omega)
    refine blk_E (List.mem_append.mpr (.inr ?_)) o1 (by simp) o2
    rw [Int.toNat_of_nonneg (by omega)]
    refine List.mem_flatMap.mpr ⟨starts.getD (j + 1) 0, ?_, List.mem_map.mpr ⟨k, List.mem_range.mpr hk', rfl⟩⟩
    have : ∀ j < 10, starts.getD (j + 1) 0 ∈ starts.drop 1 := by decide
    exact this j (by omega)
theorem blk_plain (n : Int) : Blk (ep (plainP n).1) (plainP n).2 := by
  have m0 := Int.fmod_nonneg_of_pos n (b := 42) (by decide)
  have m1 := Int.fmod_lt_of_pos n (b := 42) (by decide)
  have : ∀ j < 42, (plains.getD j 0).toNat ∈ absL ∧ low (plains.getD j 0).toNat = (plains.getD j 0).toNat ∧ esc [(plains.getD j 0).toNat] = [(plains.getD j 0).toNat] ∧ [(plains.getD j 0).toNat].all okc = true := by decide +kernel
  obtain ⟨q1, q2, q3, q4⟩ := this (n.fmod 42).toNat (by omega)
  exact blk_abs q1 (by rw [q2]; exact q3) (by simp [plainP]) q4
theorem blk_word (n : Int) : Blk (ep (wordP n).1) (wordP n).2 := by
  have m0 := Int.fmod_nonneg_of_pos n (b := 19) (by decide)
  have m1 := Int.fmod_lt_of_pos n (b := 19) (by decide)
  have : ∀ j < 19, ((((wordsL.getD j (0, ⟨#[]⟩)).1.toNat : Nat) : Int), (wordsL.getD j (0, ⟨#[]⟩)).2.cps.toList) ∈ wordE ∧ esc (wordsL.getD j (0, ⟨#[]⟩)).2.cps.toList = (wordsL.getD j (0, ⟨#[]⟩)).2.cps.toList ∧ (wordsL.getD j (0, ⟨#[]⟩)).2.cps.toList ≠ [] ∧ (wordsL.getD j (0, ⟨#[]⟩)).2.cps.toList.all okc = true := by decide +kernel
  obtain ⟨q1, q2, q3, q4⟩ := this (n.fmod 19).toNat (by omega)
  exact blk_E (List.mem_append.mpr (.inl q1)) q2 q3 q4
theorem ep_end (n : Int) : ep (endP n) = endP n ∧ (endP n = [10] ∨ endP n = [13] ∨ endP n = [13, 10]) := by
  have m0 := Int.fmod_nonneg_of_pos n (b := 5) (by decide)
  have m1 := Int.fmod_lt_of_pos n (b := 5) (by decide)
  have : ∀ j < 5, ends5.getD j [] = [10] ∨ ends5.getD j [] = [13] ∨ ends5.getD j [] = [13, 10] := by decide
  have q := this (n.fmod 5).toNat (by omega)
  have e10 : ep [10] = [10] := by rw [ep_one, prep_abs (by decide)]; rfl
  have e13 : ep [13] = [13] := by rw [ep_one, prep_abs (by decide)]; rfl
  have e1310 : ep [13, 10] = [13, 10] := by rw [show [13, 10] = [13] ++ [10] from rfl, ep_append, e10, e13]
  unfold endP
  refine ⟨?_, q⟩
  rcases q with q | q | q <;> rw [q]
  · exact e10
  · exact e13
  · exact e1310
theorem blk_piece (n : Int) (h0 : 0 ≤ n) (h1 : n < 1000000) : Blk (ep (pieceP n).1) (pieceP n).2 := by
  obtain ⟨r0, r1⟩ := fdiv_bounds h0 h1 (b := 12) (by decide)
  have e46 : ep [46] = [46] := by rw [ep_one, prep_abs (by decide)]; rfl
  have e4646 : ep [46, 46] = [46, 46] := by rw [show [46, 46] = [46] ++ [46] from rfl, ep_append, e46]
  unfold pieceP
  generalize n.fmod 12 = kd
  generalize n.fdiv 12 = rs at r0 r1
  obtain ⟨f1, f2⟩ := ep_end rs
  split
  · exact .none (blk_nothing rs) rfl
  split
  · split
    · exact blk_letter _ (fdiv_bounds r0 r1 (b := 2) (by decide)).1
    · exact blk_plain _
  split
  · exact blk_word rs
  split
  · have m0 := Int.fmod_nonneg_of_pos rs (b := 3) (by decide)
    have m1 := Int.fmod_lt_of_pos rs (b := 3) (by decide)
    have : ∀ j < 3, ∃ c, (signs3.getD j ([], [])).1 = [c] ∧ c ∈ absL ∧ esc [low c] = (signs3.getD j ([], [])).2 ∧ (signs3.getD j ([], [])).2 ≠ [] ∧ (signs3.getD j ([], [])).2.all okc = true := by
      intro j hj
      have : j = 0 ∨ j = 1 ∨ j = 2 := by omega
      rcases this with rfl | rfl | rfl
      · exact ⟨38, rfl, by decide, rfl, by decide, by decide⟩
      · exact ⟨60, rfl, by decide, rfl, by decide, by decide⟩
      · exact ⟨62, rfl, by decide, rfl, by decide, by decide⟩
    obtain ⟨c, q1, q2, q3, q4, q5⟩ := this (rs.fmod 3).toNat (by omega)
    rw [q1]
    exact blk_abs q2 q3 q4 q5
  split
  · exact .line (endP rs) [46, 46] (by rw [ep_append, f1, e4646]) f2 (.inr rfl) rfl
  split
  · exact .line (endP rs) [46] (by rw [ep_append, ep_append, f1, blk_nothing, e46, List.append_nil]) f2 (.inl rfl) rfl
  · exact .line (endP rs) [46] (by rw [ep_append, f1, e46]) f2 (.inl rfl) rfl
end Mine
end
/-! part Fp5 -/
section
set_option maxRecDepth 100000
set_option linter.unusedVariables false
namespace Mine
open PySem
/-! sizes -/
theorem piece_size (n : Int) : ((pieceP n).2 = [] ∧ (pieceP n).1.length = 1 ∨ (pieceP n).2 ≠ [] ∧ (pieceP n).1.length ≤ (pieceP n).2.length) ∧ (pieceP n).1.length ≤ 3 ∧ (pieceP n).2.length ≤ 5 := by
  unfold pieceP
  generalize n.fmod 12 = kd
  generalize n.fdiv 12 = rs
  have m0 := Int.fmod_nonneg_of_pos rs (b := 5) (by decide)
  have m1 := Int.fmod_lt_of_pos rs (b := 5) (by decide)
  have hends : ∀ j < 5, (ends5.getD j []).length ≤ 2 ∧ (j ≠ 2 → (ends5.getD j []).length = 1) := by decide
  obtain ⟨e1, e2⟩ := hends (rs.fmod 5).toNat (by omega)
  replace e1 : (endP rs).length ≤ 2 := e1
  replace e2 : (rs.fmod 5).toNat ≠ 2 → (endP rs).length = 1 := e2
  split
  · exact ⟨.inl ⟨rfl, rfl⟩, by show 1 ≤ 3; decide, by show 0 ≤ 5; decide⟩
  split
  · split
    · exact ⟨.inr ⟨by simp [letterP], Nat.le_refl _⟩, by simp [letterP], by simp [letterP]⟩
    · exact ⟨.inr ⟨by simp [plainP], Nat.le_refl _⟩, by simp [plainP], by simp [plainP]⟩
  split
  · have d0 := Int.fmod_nonneg_of_pos rs (b := 19) (by decide)
    have d1 := Int.fmod_lt_of_pos rs (b := 19) (by decide)
    have : ∀ j < 19, (wordsL.getD j (0, ⟨#[]⟩)).2.cps.toList ≠ [] ∧ 1 ≤ (wordsL.getD j (0, ⟨#[]⟩)).2.cps.toList.length ∧ (wordsL.getD j (0, ⟨#[]⟩)).2.cps.toList.length ≤ 5 := by decide +kernel
    obtain ⟨q1, q2, q3⟩ := this (rs.fmod 19).toNat (by omega)
    exact ⟨.inr ⟨q1, q2⟩, by simp [wordP], q3⟩
  split
  · have d0 := Int.fmod_nonneg_of_pos rs (b := 3) (by decide)
    have d1 := Int.fmod_lt_of_pos rs (b := 3) (by decide)
    have : ∀ j < 3, (signs3.getD j ([], [])).2 ≠ [] ∧ (signs3.getD j ([], [])).1.length ≤ (signs3.getD j ([], [])).2.length ∧ (signs3.getD j ([], [])).1.length ≤ 3 ∧ (signs3.getD j ([], [])).2.length ≤ 5 := by decide
    obtain ⟨q1, q2, q3, q4⟩ := this (rs.fmod 3).toNat (by omega)
    exact ⟨.inr ⟨q1, q2⟩, q3, q4⟩
  split
  · have := e2 (by omega)
    refine ⟨.inr ⟨by simp, ?_⟩, ?_, by show 5 ≤ 5; decide⟩ <;> (simp only [List.length_append, this]; decide)
  split
  · have := e2 (by omega)
    refine ⟨.inr ⟨by simp, ?_⟩, ?_, by show 4 ≤ 5; decide⟩ <;> (simp only [List.length_append, this, nothingP, List.length_cons, List.length_nil]; decide)
  · refine ⟨.inr ⟨by simp, ?_⟩, ?_, by show 4 ≤ 5; decide⟩ <;> (simp only [List.length_append, List.length_cons, List.length_nil]; omega)

/-- pieces as the cycle wants them -/
noncomputable def Steps (r : List PP) : Prop := ∀ p ∈ r, (p.2 = [] ∧ p.1.length = 1 ∨ p.2 ≠ [] ∧ p.1.length ≤ p.2.length) ∧ p.1.length ≤ 3 ∧ p.2.length ≤ 5
theorem steps_ring (ks : List Int) : Steps (ringOf ks) := fun p hp => by
  obtain ⟨n, _, rfl⟩ := List.mem_map.mp hp
  exact piece_size n
theorem blks_ring (ks : List Int) : Blks (ringOf ks) := fun p hp => by
  obtain ⟨n, hn, rfl⟩ := List.mem_map.mp hp
  obtain ⟨h0, h1⟩ := nums_bound ks n hn
  exact blk_piece n h0 h1
theorem blks_sub {a b : List PP} (h : Blks b) (k : ∀ p ∈ a, p ∈ b) : Blks a := fun p hp => h p (k p hp)
theorem rot_mem {r : List PP} {s : Nat} : ∀ p ∈ rot r s, p ∈ r := fun p hp => by
  rcases List.mem_append.mp hp with h | h
  · exact List.mem_of_mem_drop h
  · exact List.mem_of_mem_take h
theorem cat_len : ∀ {ps : List PP}, Steps ps → (cat1 ps).length ≤ 3 * ps.length ∧ (cat2 ps).length ≤ 5 * ps.length
  | [], _ => ⟨Nat.le_refl _, Nat.le_refl _⟩
  | p :: ps, h => by
    obtain ⟨_, h1, h2⟩ := h p (by simp)
    obtain ⟨i1, i2⟩ := cat_len (ps := ps) fun q hq => h q (by simp [hq])
    rw [show cat1 (p :: ps) = p.1 ++ cat1 ps from by simp [cat1], show cat2 (p :: ps) = p.2 ++ cat2 ps from by simp [cat2], List.length_append, List.length_append, List.length_cons]
    omega

/-! the cycle -/
theorem dif_append (a b : List PP) : dif (a ++ b) = dif a + dif b := by
  simp only [dif, cat1, cat2, List.flatMap_append, List.length_append]
  omega
theorem dif_nil : dif [] = 0 := rfl
noncomputable def Pf (r : List PP) (i : Nat) : Int := dif (r.take i)
theorem Pf_zero (r : List PP) : Pf r 0 = 0 := by rw [Pf, List.take_zero, dif_nil]
theorem Pf_succ {r : List PP} {i : Nat} (h : i < r.length) : Pf r (i + 1) = Pf r i - wneed (r.getD i ([], [])) := by
  rw [Pf, List.take_add_one, List.getElem?_eq_getElem h, List.getD_eq_getElem?_getD, List.getElem?_eq_getElem h]
  simp only [Option.toList_some, Option.getD_some]
  rw [dif_append, Pf, wneed]
  have : dif [r[i]] = (r[i].1.length : Int) - (r[i].2.length : Int) := by simp [dif, cat1, cat2]
  rw [this]; omega
theorem dif_rot (r : List PP) (s : Nat) : dif (rot r s) = dif r := by
  rw [rot, dif_append]
  have := dif_append (r.take s) (r.drop s)
  rw [List.take_append_drop] at this
  omega
theorem take_rot1 {r : List PP} {s j : Nat} (h : s + j ≤ r.length) : dif ((rot r s).take j) = Pf r (s + j) - Pf r s := by
  rw [rot, List.take_append_of_le_length (by rw [List.length_drop]; omega), Pf, List.take_add, dif_append, Pf]
  omega
theorem take_rot2 {r : List PP} {s i : Nat} (hs : s ≤ r.length) (h : i ≤ s) : dif ((rot r s).take (r.length - s + i)) = dif r - Pf r s + Pf r i := by
  have e1 : (rot r s).take (r.length - s + i) = r.drop s ++ r.take i := by
    rw [rot, List.take_append, List.take_of_length_le (by rw [List.length_drop]; omega), List.length_drop, show r.length - s + i - (r.length - s) = i by omega, List.take_take, Nat.min_eq_left h]
  rw [e1, dif_append]
  have := dif_append (r.take s) (r.drop s)
  rw [List.take_append_drop] at this
  simp only [Pf]
  omega
theorem good_iff {r : List PP} {s : Nat} (hr : r.length = 8) (hs : s < 8) : belowB (rot r s) 8 = true ↔ (∀ i, s < i → i ≤ 8 → Pf r s < Pf r i) ∧ (∀ i, i ≤ s → Pf r s < Pf r i + dif r) := by
  rw [belowB, List.all_eq_true]
  constructor
  · intro h
    refine ⟨fun i h1 h2 => ?_, fun i h1 => ?_⟩
    · have := h (i - s - 1) (List.mem_range.mpr (by omega))
      rw [decide_eq_true_eq, show i - s - 1 + 1 = i - s by omega, take_rot1 (by omega), show s + (i - s) = i by omega] at this
      omega
    · have := h (8 - s + i - 1) (List.mem_range.mpr (by omega))
      rw [decide_eq_true_eq, show 8 - s + i - 1 + 1 = r.length - s + i by omega, take_rot2 (by omega) h1] at this
      omega
  · rintro ⟨h1, h2⟩ j hj
    have hj := List.mem_range.mp hj
    rw [decide_eq_true_eq]
    by_cases q : s + (j + 1) ≤ 8
    · rw [take_rot1 (by omega)]
      have := h1 (s + (j + 1)) (by omega) q
      omega
    · have e : j + 1 = r.length - s + (j + 1 - (8 - s)) := by omega
      rw [e, take_rot2 (by omega) (by omega)]
      have := h2 (j + 1 - (8 - s)) (by omega)
      omega
/-- the stack while it is popped: c is the height -/
structure Stk (r : List PP) (i : Nat) (c : Int) (x : List Int × Int) : Prop where
  lo : ∀ k, k ≤ i → -x.2 ≤ Pf r k
  loc : -x.2 ≤ c
  at_ : (∃ k, k ≤ i ∧ Pf r k = -x.2) ∨ c = -x.2
  len : (x.1.length : Int) = c + x.2
  el : ∀ q : Nat, q < x.1.length → ∃ p : Nat, x.1[q]? = some (p : Int) ∧ p < i ∧ Pf r p = -x.2 + q ∧ ∀ k, p < k → k ≤ i → Pf r p < Pf r k
theorem Stk.pop {r : List PP} {i : Nat} {c : Int} {x : List Int × Int} (h : Stk r i c x) : Stk r i (c - 1) (pop1 x) := by
  obtain ⟨W, o⟩ := x
  have hl := h.len
  have hc := h.loc
  have h1 := h.lo
  have h2 := h.at_
  have h3 := h.el
  dsimp only at hl hc h1 h2 h3
  unfold pop1
  dsimp only
  split
  · rename_i e
    subst e
    rw [List.length_nil] at hl
    have hl : c + o = 0 := hl.symm
    refine ⟨fun k hk => ?_, ?_, .inr ?_, ?_, fun q hq => absurd hq (Nat.not_lt_zero _)⟩
    · have := h1 k hk; dsimp only; omega
    · dsimp only; omega
    · dsimp only; omega
    · dsimp only; rw [List.length_nil]; omega
  · rename_i e
    have hp : 0 < W.length := List.length_pos_iff.mpr e
    have hd : W.dropLast.length = W.length - 1 := List.length_dropLast
    refine ⟨h1, ?_, ?_, ?_, fun q hq => ?_⟩
    · dsimp only; omega
    · rcases h2 with h2 | h2
      · exact .inl h2
      · omega
    · dsimp only; rw [hd]; omega
    · dsimp only at hq ⊢
      rw [hd] at hq
      obtain ⟨p, e1, e2⟩ := h3 q (by omega)
      refine ⟨p, ?_, e2⟩
      rw [List.getElem?_dropLast, if_pos hq]; exact e1
theorem Stk.popN {r : List PP} {i : Nat} : ∀ (n : Nat) {c : Int} {x : List Int × Int}, Stk r i c x → Stk r i (c - n) (popN n x)
  | 0, c, x, h => by rw [show (c - ((0 : Nat) : Int)) = c by simp]; exact h
  | n + 1, c, x, h => by
    have := (Stk.popN n h).pop
    rw [show c - ((n + 1 : Nat) : Int) = c - (n : Int) - 1 by push_cast; omega]
    exact this
theorem stk_waits {r : List PP} (hs : Steps r) : ∀ i, i ≤ r.length → Stk r i (Pf r i) (waits r i)
  | 0, _ => by
    refine ⟨fun k hk => ?_, ?_, .inr ?_, ?_, fun q hq => absurd hq (Nat.not_lt_zero _)⟩
    · rw [show k = 0 by omega, Pf_zero]; exact Int.le_refl _
    · rw [Pf_zero]; exact Int.le_refl _
    · rw [Pf_zero]; rfl
    · rw [Pf_zero]; rfl
  | i + 1, hi => by
    have ih := stk_waits hs i (by omega)
    have hm : r.getD i ([], []) ∈ r := by
      rw [List.getD_eq_getElem?_getD, List.getElem?_eq_getElem (show i < r.length by omega)]
      exact List.getElem_mem _
    have hst := (hs _ hm).1
    have hp := Pf_succ (r := r) (i := i) (by omega)
    show Stk r (i + 1) _ (popN (wneed (r.getD i ([], []))).toNat (wpush (waits r i) i (r.getD i ([], []))))
    generalize r.getD i ([], []) = p at hst hp
    generalize waits r i = x at ih
    obtain ⟨W, o⟩ := x
    rcases hst with ⟨e1, e2⟩ | ⟨e1, e2⟩
    · have hw : wneed p = -1 := by rw [wneed, e1, e2]; rfl
      rw [hw] at hp ⊢
      rw [wpush, if_pos e1]
      show Stk r (i + 1) _ (W ++ [(i : Int)], o)
      have hl := ih.len
      have hc := ih.loc
      dsimp only at hl hc
      refine ⟨fun k hk => ?_, ?_, ?_, ?_, fun q hq => ?_⟩
      · dsimp only
        by_cases q : k = i + 1
        · rw [q]; omega
        · exact ih.lo k (by omega)
      · dsimp only; omega
      · rcases ih.at_ with ⟨k, h1, h2⟩ | h2
        · exact .inl ⟨k, by omega, h2⟩
        · exact .inl ⟨i, by omega, h2⟩
      · dsimp only; rw [List.length_append, show [(i : Int)].length = 1 from rfl]; push_cast; omega
      · dsimp only at hq ⊢
        rw [List.length_append, show [(i : Int)].length = 1 from rfl] at hq
        by_cases qe : q = W.length
        · subst qe
          refine ⟨i, by simp, by omega, by omega, fun k h1 h2 => ?_⟩
          rw [show k = i + 1 by omega]; omega
        · obtain ⟨p', f1, f2, f3, f4⟩ := ih.el q (by dsimp only; omega)
          refine ⟨p', ?_, by omega, f3, fun k h1 h2 => ?_⟩
          · rw [List.getElem?_append_left (by omega)]; exact f1
          · by_cases qk : k = i + 1
            · have := f4 i f2 (Nat.le_refl _)
              rw [qk]; omega
            · exact f4 k h1 (by omega)
    · have hw : ((wneed p).toNat : Int) = wneed p := by rw [wneed]; omega
      rw [wpush, if_neg e1]
      have h := Stk.popN (wneed p).toNat ih
      rw [hw, ← hp] at h
      dsimp only
      generalize popN (wneed p).toNat (W, o) = y at h ⊢
      have hl := h.len
      refine ⟨fun k hk => ?_, h.loc, ?_, h.len, fun q hq => ?_⟩
      · by_cases qk : k = i + 1
        · rw [qk]; exact h.loc
        · exact h.lo k (by omega)
      · rcases h.at_ with ⟨k, h1, h2⟩ | h2
        · exact .inl ⟨k, by omega, h2⟩
        · exact .inl ⟨i + 1, Nat.le_refl _, h2⟩
      · obtain ⟨p', f1, f2, f3, f4⟩ := h.el q hq
        refine ⟨p', f1, by omega, f3, fun k h1 h2 => ?_⟩
        by_cases qk : k = i + 1
        · rw [qk]; omega
        · exact f4 k h1 (by omega)
end Mine
end
/-! part Fp6 -/
section
set_option maxRecDepth 100000
set_option linter.unusedVariables false
namespace Mine
open PySem
theorem inc_eq : ∀ {a b : List Int}, a.Pairwise (· < ·) → b.Pairwise (· < ·) → (∀ v, v ∈ a ↔ v ∈ b) → a = b
  | [], [], _, _, _ => rfl
  | [], y :: b, _, _, h => absurd ((h y).mpr (by simp)) (by simp)
  | x :: a, [], _, _, h => absurd ((h x).mp (by simp)) (by simp)
  | x :: a, y :: b, ha, hb, h => by
    obtain ⟨a1, a2⟩ := List.pairwise_cons.mp ha
    obtain ⟨b1, b2⟩ := List.pairwise_cons.mp hb
    have e : x = y := by
      rcases List.mem_cons.mp ((h x).mp (by simp)) with q | q
      · exact q
      · rcases List.mem_cons.mp ((h y).mpr (by simp)) with q' | q'
        · exact q'.symm
        · have := a1 _ q'; have := b1 _ q; omega
    subst e
    rw [inc_eq a2 b2 fun v => ?_]
    constructor
    · intro hv
      rcases List.mem_cons.mp ((h v).mp (List.mem_cons_of_mem _ hv)) with q | q
      · subst q; have := a1 _ hv; omega
      · exact q
    · intro hv
      rcases List.mem_cons.mp ((h v).mpr (List.mem_cons_of_mem _ hv)) with q | q
      · subst q; have := b1 _ hv; omega
      · exact q
theorem goods_inc (r : List PP) (n : Nat) : (goods r n).Pairwise (· < ·) := by
  rw [goods, List.pairwise_map]
  refine List.Pairwise.imp (fun {a b} h => ?_) (List.Pairwise.filter _ List.pairwise_lt_range)
  show ((a : Nat) : Int) < (b : Int)
  omega
theorem goods_mem (r : List PP) (n : Nat) (v : Int) : v ∈ goods r n ↔ ∃ s, s < n ∧ belowB (rot r s) 8 = true ∧ v = (s : Int) := by
  rw [goods, List.mem_map]
  constructor
  · rintro ⟨s, hs, rfl⟩
    obtain ⟨h1, h2⟩ := List.mem_filter.mp hs
    exact ⟨s, List.mem_range.mp h1, h2, rfl⟩
  · rintro ⟨s, h1, h2, rfl⟩
    exact ⟨s, List.mem_filter.mpr ⟨List.mem_range.mpr h1, h2⟩, rfl⟩
theorem Stk.inc {r : List PP} {i : Nat} {c : Int} {x : List Int × Int} (h : Stk r i c x) : x.1.Pairwise (· < ·) := by
  rw [List.pairwise_iff_getElem]
  intro a b ha hb hab
  obtain ⟨p, e1, e2, e3, e4⟩ := h.el a ha
  obtain ⟨p', f1, f2, f3, f4⟩ := h.el b hb
  rw [List.getElem?_eq_getElem ha] at e1
  rw [List.getElem?_eq_getElem hb] at f1
  rw [Option.some.inj e1, Option.some.inj f1]
  rcases Nat.lt_or_ge p p' with q | q
  · omega
  · rcases Nat.lt_or_ge p' p with q' | q'
    · have := f4 p q' (by omega); omega
    · have : p = p' := by omega
      subst this; omega
theorem cycle {r : List PP} (hs : Steps r) (hr : r.length = 8) :
    goods r 8 = (waits r 8).1.take (max 0 (((waits r 8).1.length : Int) - (waits r 8).2)).toNat ∧ ((goods r 8).length : Int) = max 0 (dif (rot r 7)) := by
  have S := stk_waits hs 8 (by omega)
  have hT : Pf r 8 = dif r := by rw [Pf, List.take_of_length_le (by omega)]
  rw [hT] at S
  rw [dif_rot]
  generalize waits r 8 = x at S
  have hl := S.len
  have h0 := S.lo 0 (by omega)
  rw [Pf_zero] at h0
  have inc := S.inc
  have eT : (x.1.length : Int) - x.2 = dif r := by omega
  rw [eT]
  have key : goods r 8 = x.1.take (max 0 (dif r)).toNat := by
    refine inc_eq (goods_inc r 8) (inc.sublist (List.take_sublist _ _)) fun v => ?_
    rw [goods_mem]
    constructor
    · rintro ⟨s, hs8, hb, rfl⟩
      obtain ⟨g1, g2⟩ := (good_iff hr hs8).mp hb
      -- its level
      have q0 : -x.2 ≤ Pf r s := S.lo s (by omega)
      have q8 := g1 8 hs8 (Nat.le_refl _)
      rw [hT] at q8
      have hq : ((Pf r s + x.2).toNat : Int) = Pf r s + x.2 := by omega
      have hqW : (Pf r s + x.2).toNat < x.1.length := by omega
      obtain ⟨p, e1, e2, e3, e4⟩ := S.el _ hqW
      have e3' : Pf r p = Pf r s := by omega
      have eps : p = s := by
        rcases Nat.lt_or_ge p s with q | q
        · have := e4 s q (by omega); omega
        · rcases Nat.lt_or_ge s p with q' | q'
          · have := g1 p q' (by omega); omega
          · omega
      subst eps
      have hqT : (Pf r p + x.2).toNat < (max 0 (dif r)).toNat := by
        rcases S.at_ with ⟨k, k1, k2⟩ | k2
        · rcases Nat.lt_or_ge p k with q | q
          · have := g1 k q k1; omega
          · have := g2 k q; omega
        · omega
      exact List.mem_iff_getElem?.mpr ⟨(Pf r p + x.2).toNat, by rw [List.getElem?_take, if_pos hqT]; exact e1⟩
    · intro hv
      obtain ⟨q, hq⟩ := List.mem_iff_getElem?.mp hv
      rw [List.getElem?_take] at hq
      split at hq
      · rename_i hqT
        have hqW : q < x.1.length := (List.getElem?_eq_some_iff.mp hq).1
        obtain ⟨p, e1, e2, e3, e4⟩ := S.el q hqW
        rw [hq] at e1
        refine ⟨p, e2, (good_iff hr e2).mpr ⟨fun i h1 h2 => e4 i h1 h2, fun i h1 => ?_⟩, Option.some.inj e1⟩
        have := S.lo i (by omega)
        omega
      · cases hq
  refine ⟨key, ?_⟩
  rw [key, List.length_take]
  omega
end Mine
end
/-! part Fw8 -/
section
set_option maxRecDepth 100000
set_option linter.unusedVariables false
open PySem
namespace Mine
open PyProof.Rows PySem.Calls
/-- two lists of values go together over a heap -/
inductive Both (G : Value → Value → Heap → Prop) (h : Heap) : List Value → List Value → Prop
  | nil : Both G h [] []
  | cons {v y vs ys} : G v y h → Both G h vs ys → Both G h (v :: vs) (y :: ys)
theorem Both.snoc {G : Value → Value → Heap → Prop} {h : Heap} : ∀ {vs ys v y}, Both G h vs ys → G v y h → Both G h (vs ++ [v]) (ys ++ [y])
  | _, _, _, _, .nil, q => .cons q .nil
  | _, _, _, _, .cons a r, q => .cons a (r.snoc q)
theorem Both.imp {G : Value → Value → Heap → Prop} {h h' : Heap} (k : ∀ v y, G v y h → G v y h') : ∀ {vs ys}, Both G h vs ys → Both G h' vs ys
  | _, _, .nil => .nil
  | _, _, .cons a r => .cons (k _ _ a) (r.imp k)
theorem Both.length {G : Value → Value → Heap → Prop} {h : Heap} : ∀ {vs ys}, Both G h vs ys → vs.length = ys.length
  | _, _, .nil => rfl
  | _, _, .cons a r => by simp [r.length]
theorem ns_tup {h : Heap} {L : Addr} {m : Str → Option Value} {o : Obj} (hn : h.Ns L m) (e : h.get? L = some o) (ct : o.cls = .type "tuple") (hd : ∃ xs n, o.data = .seq xs n) : False := by
  obtain ⟨o', es, ep, e', d', _⟩ := hn
  obtain ⟨xs, n, d⟩ := hd
  rw [e] at e'
  cases e'
  rw [d] at d'
  cases d'
/-- a heap whose tuples stay -/
noncomputable def Tups (h h' : Heap) : Prop := ∀ b o, o.cls = .type "tuple" → (∃ xs n, o.data = .seq xs n) → h.get? b = some o → h'.get? b = some o
section
variable {prog : Program} {w : World} {A : Around} {h : Heap} {name : Str} {fscope scope : Scope} {L a : Addr} {cd : Value} {S : Addr → Obj → Prop} {m : Str → Option Value}
theorem h_assignComp {elt iter : Expr} {x y : Str} {px py pos spos : Pos} {P : Flow → Heap → Prop} (G : Value → Value → Heap → Prop) (hG : ∀ v y h h', G v y h → Tups h h' → G v y h')
    (hh : A.handled = none)
    (hsw : swapsWith (.ListComp elt [⟨.Name x px, iter, [], 0⟩] scope pos) (some (.Name y py)) spos.line (envOf name fscope L a cd) = pure true)
    (hclos : closureFor scope (envOf name fscope L a cd) = pure []) (hcell : ∀ z ∈ scope.names, z.2 ≠ .cell) (hkind : scope.kind = .function)
    (hnames : ∀ z ∈ scope.names, z.2 = .local → scope.names.lookup z.1 = some .local) (hx : scope.names.lookup x = some .local)
    (hy : fscope.names.lookup y = some .local) (hfk : fscope.kind = .function)
    (q : hw (model prog w) A (eval iter (envOf name fscope L a cd)) (fun xv h₁ => ∃ l vs n S' m', xv = .ref l ∧ h₁.get? l = some (lobj vs n) ∧ vs.length ≤ 2 ^ 20 ∧ Fm S' L m' h₁ ∧
      (∀ C v h₂ m₂, v ∈ vs → Grow h₁ h₂ → h₂.Ns C m₂ → m₂ x = some v → hw (model prog w) A (eval elt (compEnvC scope [] C (envOf name fscope L a cd))) (fun r h₃ => Grow h₂ h₃ ∧ G v r h₃) h₂) ∧
      (∀ D ys n h₂, h₁.get? D = none → Fm S' L (upd m' y (.ref D)) h₂ → h₂.get? D = some (lobj ys n) → Both G h₂ vs ys → P .next h₂)) h)
    (hs : ∀ x, foldedSetIterable iter (envOf name fscope L a cd) x = pure x := by intro _; rfl) :
    hw (model prog w) A (exec (.Assign [.Name y py] (.ListComp elt [⟨.Name x px, iter, [], 0⟩] scope pos) spos) (envOf name fscope L a cd)) P h := hw.mk fun g d tk os => by
  have e20 : (2 : Nat) ^ 20 = 1048576 := by decide
  rw [exec_Assign_Name_used _ _ _ _ hsw]
  refine wpAny_bind (wpAny_standAt (wpAny_bind ?_))
  show wpAny _ A (do let _ ← comprehension (.ListComp elt [⟨.Name x px, iter, [], 0⟩] scope pos) scope (envOf name fscope L a cd) _ (newList []) false (eval iter (envOf name fscope L a cd)) (some (assign (.Name y py) (envOf name fscope L a cd)))) _ _ _
  refine wpAny_bind (wpAny_mono (wpAny_comprehension_free (use := some (assign (.Name y py) (envOf name fscope L a cd))) (Q := fun _ s' => ∃ h' k', s' = ⟨h', g, d, k', os⟩ ∧ P .next h') rfl hs hclos hkind hnames
    (wpAny_mono (q.go g d tk os) (fun xv s₁ h₁ => ?_) fun _ _ e => e)) (fun _ s' hq => wpAny_pure (wpAny_pure hq)) fun _ _ e => e)
  obtain ⟨h₁, k₁, rfl, l, vs, n, S', m', rfl, hl, hz, F, helt, hP⟩ := h₁
  have hL : h₁.IsList l vs.toArray := ⟨_, hl, rfl, _, rfl⟩
  refine wpAny_pyIter_list hL (wpAny_newObj_type (hd := by size_fits) (wpAny_newFunctionEnv hcell (by intro y hy; simp at hy) (fun h₂ hns hsb => ?_) hkind))
  dsimp only at hns hsb ⊢
  generalize hH1 : h₁.push { cls := .type "list_iterator", data := .fields #[.ref l, .int 0 0] } = H1 at hns hsb ⊢
  have hD : H1.objs.size = h₁.objs.size + 1 := by rw [← hH1, Heap.size_push]
  generalize hH2 : H1.push { cls := .type "list", dict := none, data := .seq ([] : List Value).toArray } = H2 at hns hsb ⊢
  have hC : H2.objs.size = h₁.objs.size + 1 + 1 := by rw [← hH2, Heap.size_push, hD]
  have big : ∀ (b : Nat) o, h₁.get? b = some o → b < h₁.objs.size := fun b o e => Heap.lt_size e
  have up : ∀ b o, b ≠ H2.objs.size → H2.get? b = some o → h₂.get? b = some o := fun b o ne e => hsb.extBut b o ne (Heap.get?_push_of_some _ e)
  have old : Grow h₁ h₂ := fun b o e => up b o (by have := big b o e; omega) (hH2 ▸ Heap.get?_push_of_some _ (hH1 ▸ Heap.get?_push_of_some _ e))
  have hIt : h₂.IsListIter h₁.objs.size l 0 := ⟨_, up _ _ (by omega) (hH2 ▸ Heap.get?_push_of_some _ (hH1 ▸ Heap.get?_push_size _ rfl)), rfl, rfl⟩
  have hAc : h₂.get? H1.objs.size = some (lobj [] 0) := up _ _ (by omega) (hH2 ▸ Heap.get?_push_size _ rfl)
  have nw : ∀ b : Nat, h₁.objs.size ≤ b → h₁.get? b = none := fun b hb => by
    cases e : h₁.get? b with
    | none => rfl
    | some o => have := big b o e; omega
  have lne : ∀ b : Nat, h₁.objs.size ≤ b → l ≠ b := fun b hb e => by rw [e, nw b hb] at hl; cases hl
  refine codeAny_compStart_list ?loop (wpAny_pyIter_listiter hIt ?loop)
  show codeAny _ A (.compLoop (.ListComp elt [⟨.Name x px, iter, [], 0⟩] scope pos) 0 (.ref h₁.objs.size) (.ref H1.objs.size) (compEnvC scope [] H2.objs.size (envOf name fscope L a cd))) _ _
  refine codeAny_compLoop_tests (fun n s => ∃ h' k' i ys nn mm, s = ⟨h', g, d, k', os⟩ ∧ n = vs.length - i ∧ i ≤ vs.length ∧ h'.IsListIter h₁.objs.size l i ∧ h'.get? H1.objs.size = some (lobj ys nn) ∧ h'.Ns H2.objs.size mm ∧ Both G h' (vs.take i) ys ∧ Grow h₁ h') ?_ vs.length
    ⟨h₂, _, 0, [], 0, _, rfl, rfl, Nat.zero_le _, hIt, hAc, hns, by simpa using Both.nil, old⟩
  rintro n s ⟨h', k', i, ys, nn, mm, rfl, rfl, hi, hit', hac', hn', hb', g'⟩
  have hl' := g' _ _ hl
  have hL' : h'.IsList l vs.toArray := ⟨_, hl', rfl, _, rfl⟩
  by_cases qi : i = vs.length
  · subst qi
    refine wpAny_pyNext_list_end hh hit' hL' (by simp) fun h3 e3 => ?_
    have g3 : Grow h₁ h3 := fun b o e => e3 b o (Nat.ne_of_lt (big b o e)) (g' b o e)
    rw [List.take_of_length_le (Nat.le_refl _)] at hb'
    show wpAny _ A (assign (.Name y py) (envOf name fscope L a cd) (.ref H1.objs.size)) _ _ _
    have lL : L ≠ H2.objs.size := by obtain ⟨o, eo⟩ := F.there; have := big _ _ eo; exact Nat.ne_of_lt (by omega)
    have lD : H1.objs.size ≠ L := by obtain ⟨o, eo⟩ := F.there; have := big _ _ eo; exact Nat.ne_of_gt (by omega)
    refine wpAny_assign_Name (wpAny_storeName_local (env := envOf name fscope L a cd) hy (F.grow g3).ns (fun h4 hn4 hs4 => ?_) (by show (fscope.kind == .class || (fscope.kind == .module && L != mainGlobals)) = false; rw [hfk]; rfl))
    refine ⟨_, (hn'.extBut e3 (Nat.ne_of_gt (by omega))).sameBut hs4 lL.symm, fun h5 hs5 => ⟨h5, _, rfl, ?_⟩⟩
    have hn5 := hn4.sameBut hs5 lL
    have up5 : ∀ b o, b ≠ h₁.objs.size → b ≠ L → b ≠ H2.objs.size → h'.get? b = some o → h5.get? b = some o := fun b o n1 n2 n3 e => hs5.extBut b o n3 (hs4.extBut b o n2 (e3 b o n1 e))
    have hDfin : h5.get? H1.objs.size = some (lobj ys nn) := up5 _ _ (by omega) lD (by omega) hac'
    refine hP H1.objs.size ys nn h5 (nw _ (by omega)) ⟨hn5, fun b o sb => ?_, F.off⟩ hDfin ?_
    · have eb := F.keep b o sb
      have := big b o eb
      exact up5 b o (by omega) (fun e => F.off o (e ▸ sb)) (by omega) (g' b o eb)
    · refine hb'.imp fun v r q => hG v r h' h5 q fun b o ct cd e => up5 b o ?_ ?_ ?_ e
      · rintro rfl
        obtain ⟨oi, e1, e2, _⟩ := hit'
        rw [e] at e1; cases e1; rw [ct] at e2; exact absurd e2 (by decide)
      · rintro rfl
        exact ns_tup (F.grow g').ns e ct cd
      · rintro rfl
        exact ns_tup hn' e ct cd
  · have hlt : i < vs.length := by omega
    refine wpAny_pyNext_list_item hit' hL' (show vs.toArray[i]? = some vs[i] by simp [hlt]) fun h3 hit3 hs3 => ?_
    have hkC : (compEnvC scope [] H2.objs.size (envOf name fscope L a cd)).scope.kind = .function := by simp [compEnvC, relabel, hkind]
    refine wpAny_assign_Name (wpAny_storeName_local (env := compEnvC scope [] H2.objs.size (envOf name fscope L a cd)) (lookup_relabel_local hx) (hn'.sameBut hs3 (Nat.ne_of_gt (by omega))) (fun h4 hn4 hs4 => ?_) (by rw [hkC]; rfl))
    rw [List.forIn_nil]
    refine wpAny_pure ?_
    dsimp only
    have up4 : ∀ b o, b ≠ h₁.objs.size → b ≠ H2.objs.size → h'.get? b = some o → h4.get? b = some o := fun b o n1 n2 e => hs4.extBut b o n2 (hs3.extBut b o n1 e)
    have g4 : Grow h₁ h4 := fun b o e => up4 b o (Nat.ne_of_lt (big b o e)) (Nat.ne_of_lt (by have := big b o e; omega)) (g' b o e)
    have hac4 : h4.get? H1.objs.size = some (lobj ys nn) := up4 _ _ (Nat.ne_of_gt (by omega)) (Nat.ne_of_lt (by omega)) hac'
    have hit4 := hit3.extBut hs4.extBut (show (h₁.objs.size : Nat) ≠ H2.objs.size from Nat.ne_of_lt (by omega))
    rw [if_pos rfl]
    refine wpAny_mono ((helt H2.objs.size vs[i] h4 _ (List.getElem_mem hlt) g4 hn4 (if_pos rfl)).go g d _ os) (fun r s₅ q => ?_) fun _ _ (q : False) => q.elim
    obtain ⟨h5, k5, rfl, g5, hr⟩ := q
    have hac5 := g5 _ _ hac4
    have hb5 : Both G h5 (vs.take (i + 1)) (ys ++ [r]) := by
      rw [List.take_add_one, List.getElem?_eq_getElem hlt]
      refine Both.snoc (hb'.imp fun v r q => hG v r h' h5 q fun b o ct cds e => g5 _ _ (up4 b o ?_ ?_ e)) hr
      · rintro rfl
        obtain ⟨oi, e1, e2, _⟩ := hit'
        rw [e] at e1; cases e1; rw [ct] at e2; exact absurd e2 (by decide)
      · rintro rfl
        exact ns_tup hn' e ct cds
    have hly := hb'.length
    rw [List.length_take] at hly
    refine wpAny_list_append_plain (l := H1.objs.size) (items := ys.toArray) ⟨nn, hac5⟩ (fun h6 hp6 hs6 => ?_) (by rw [sizeLine_eq, List.size_toArray]; omega)
    obtain ⟨n6, hp6⟩ := hp6
    have hn6 := (hn4.keeps g5).sameBut hs6 (show (H2.objs.size : Nat) ≠ H1.objs.size from Nat.ne_of_gt (by omega))
    refine ⟨vs.length - (i + 1), by omega, h6, _, i + 1, ys ++ [r], n6, _, rfl, rfl, by omega, ?_, ?_, hn6, ?_, ?_⟩
    · obtain ⟨oi, e1, e2⟩ := hit4
      exact ⟨oi, hs6.extBut _ _ (Nat.ne_of_lt (by omega)) (g5 _ _ e1), e2⟩
    · rw [hp6]; simp
    · refine hb5.imp fun v r q => hG v r h5 h6 q fun b o ct cds e => hs6.extBut b o ?_ e
      rintro rfl
      rw [hac5] at e
      cases e
      exact absurd (show Value.type "list" = Value.type "tuple" from ct) (by decide)
    · exact fun b o e => hs6.extBut b o (Nat.ne_of_lt (by have := big b o e; omega)) (g5 _ _ (g4 b o e))
end
end Mine
end
/-! part Fw9 -/
section
set_option maxRecDepth 100000
set_option linter.unusedVariables false
open PySem
namespace Mine
open PyProof.Rows PySem.Calls
section
variable {prog : Program} {w : World} {A : Around} {env : Env} {h : Heap} {name : Str} {scope : Scope} {L a : Addr} {cd : Value} {S : Addr → Obj → Prop} {m : Str → Option Value}
theorem p_none {P : Value → Heap → Prop} (x : P .none h) : hw (model prog w) A (evalPart none env) P h := hw_pure x
theorem p_some {e : Expr} {P : Value → Heap → Prop} (x : hw (model prog w) A (eval e env) P h) : hw (model prog w) A (evalPart (some e) env) P h := hw.mk x.go
theorem h_slice {value : Expr} {lower upper : Option Expr} {p pos : Pos} {P : Value → Heap → Prop}
    (x : hw (model prog w) A (eval value env) (fun o h1 => hw (model prog w) A (evalPart lower env) (fun vl h2 => hw (model prog w) A (evalPart upper env) (fun vu h3 => ∃ l, ∃ vs : List Value, ∃ lo hi, o = .ref l ∧ h3.IsList l vs.toArray ∧ vs.length ≤ 2 ^ 20 ∧ IsPart vl lo ∧ IsPart vu hi ∧
      (∀ a h', Grow h3 h' → h3.get? a = none → h'.get? a = some (lobj (slicePick vs.toArray lo hi none).toList 0) → P (.ref a) h')) h2) h1) h)
    (hs : ∀ l i, subscripted (.Slice lower upper none p) false (.ref l) (.ref i) = operate [.ref i, .ref l] (getItem (.ref l) (.ref i)) := by intro _ _; with_unfolding_all rfl) :
    hw (model prog w) A (eval (.Subscript value (.Slice lower upper none p) pos) env) P h := hw.mk fun g d k os => by
  refine Subscript_ (wpAny_mono (x.go g d k os) (fun o s1 q => ?_) fun _ _ q => q)
  obtain ⟨h1, k1, rfl, q⟩ := q
  refine wpAny_Slice (wpAny_mono (q.go g d k1 os) (fun vl s2 q => ?_) fun _ _ q => q)
  obtain ⟨h2, k2, rfl, q⟩ := q
  refine wpAny_mono (q.go g d k2 os) (fun vu s3 q => ?_) fun _ _ q => q
  obtain ⟨h3, k3, rfl, l, vs, lo, hi, rfl, hL, hz, pl, pu, q⟩ := q
  refine wpAny_pure ?_
  have e20 : (2 : Nat) ^ 20 = 1048576 := by decide
  refine tail_any (s := { heap := h3.push _, gens := g, drawn := d, toks := k3, os := os }) (hL.push _).typeIs slot_list_getitem.lookup ?_ (hs _ _)
  refine wpAny_getItem_list_slice (hL.push _) (Heap.IsSliceOf.new ..) pl pu .none (by simp) ⟨_, _, rfl, q _ _ (grow_push.trans grow_push) ?_ ?_⟩ (by rw [sizeLine_eq, List.size_toArray]; omega)
  · cases e : h3.get? (h3.push { cls := .type "slice", data := .fields #[vl, vu, .none] }).objs.size with
    | none => rfl
    | some o => exact absurd (Heap.lt_size e) (by rw [Heap.size_push]; exact Nat.not_lt.mpr (Nat.le_succ _))
  · rw [lobj, Array.toArray_toList]
    exact Heap.get?_push_size _ rfl
theorem l_len {l : Addr} {vs : List Value} {n : Nat} {P : Value → Heap → Prop} (hl : h.get? l = some (lobj vs n)) (hz : vs.length ≤ 2 ^ 20) (k : ∀ t, P (.int vs.length t) h) : hw (model prog w) A (call (.builtin "len") [.ref l]) P h := hw.of fun s hs => by
  subst hs
  have hL : s.heap.IsList l vs.toArray := ⟨_, hl, rfl, _, rfl⟩
  have e20 : (2 : Nat) ^ 20 = 1048576 := by decide
  refine call_len_list hL (by rw [List.size_toArray]; have e63 : (2 : Int) ^ 63 = 9223372036854775808 := (by decide); omega) ⟨_, _, rfl, ?_⟩
  rw [List.size_toArray]
  exact k _
theorem s_len {l : List Nat} {t : Tok} {P : Value → Heap → Prop} (hz : l.length ≤ 2 ^ 20) (k : ∀ t, P (.int l.length t) h) : hw (model prog w) A (call (.builtin "len") [.str ⟨l.toArray⟩ t]) P h := hw.of fun s hs => by
  subst hs
  have e20 : (2 : Nat) ^ 20 = 1048576 := by decide
  have e : (⟨l.toArray⟩ : Str).length = l.length := by show Array.size _ = _; simp
  refine PySem.P.len_str (by rw [e]; have e63 : (2 : Int) ^ 63 = 9223372036854775808 := (by decide); omega) ⟨_, _, rfl, ?_⟩
  rw [e]
  exact k _
theorem i_max {a b : Int} {t u : Tok} {P : Value → Heap → Prop} (hh : A.handled = none) (k : ∀ t h', Grow h h' → P (.int (max a b) t) h') : hw (model prog w) A (call (.builtin "max") [.int a t, .int b u]) P h := hw.of fun s hs => by
  subst hs
  refine max_two_ints hh fun h' tk g => ⟨h', tk, rfl, ?_⟩
  by_cases q : b > a
  · rw [if_pos q]
    have := k u h' g
    rwa [Int.max_eq_right (by omega)] at this
  · rw [if_neg q]
    have := k t h' g
    rwa [Int.max_eq_left (by omega)] at this
theorem i_pow {a b : Int} {t u : Tok} {P : Value → Heap → Prop} (hn : 0 ≤ b) (hsz : (Builtin.Int.intBits a : Int) * b ≤ 2 ^ 27) (k : ∀ t, P (.int (a ^ b.toNat) t) h) : hw (model prog w) A (binaryOp .Pow (.int a t) (.int b u)) P h := hw.of fun s hs => by
  subst hs
  exact pow_int hn hsz ⟨_, _, rfl, k _⟩
theorem s_eq {x y : Str} {t u : Tok} {P : Value → Heap → Prop} (k : P (.bool (x == y)) h) : hw (model prog w) A (compareOp .Eq (.str x t) (.str y u)) P h := hw.of fun s hs => by
  subst hs
  exact PyProof.Rows.eq_str ⟨_, _, rfl, k⟩
theorem s_ne {x y : Str} {t u : Tok} {P : Value → Heap → Prop} (k : P (.bool (x != y)) h) : hw (model prog w) A (compareOp .NotEq (.str x t) (.str y u)) P h := hw.of fun s hs => by
  subst hs
  exact PyProof.Rows.ne_str ⟨_, _, rfl, k⟩
theorem l_eq {x y : Addr} {vs ws : List Value} {n n' : Nat} {is js : List Int} {P : Value → Heap → Prop} (hx : h.get? x = some (lobj vs n)) (hy : h.get? y = some (lobj ws n')) (hi : IntsAre vs is) (hj : IntsAre ws js) (hu : A.units + 64 < cLine) (k : P (.bool (decide (is = js))) h) : hw (model prog w) A (compareOp .Eq (.ref x) (.ref y)) P h := hw.of fun s hs => by
  subst hs
  exact PySem.W.ke_eq_ints ⟨_, hx, rfl, _, rfl⟩ ⟨_, hy, rfl, _, rfl⟩ hi hj hu ⟨_, _, rfl, k⟩
/-- a list of the frame grows -/
theorem l_append {l : Addr} {vs : List Value} {n : Nat} {x : Value} {P : Value → Heap → Prop} (hl : h.get? l = some (lobj vs n)) (hz : vs.length ≤ 2 ^ 20) (k : ∀ h' n', h'.get? l = some (lobj (vs ++ [x]) n') → (∀ b o, b ≠ l → h.get? b = some o → h'.get? b = some o) → P .none h') : hw (model prog w) A (call (.builtin "list.append") [.ref l, x]) P h := hw.of fun s hs => by
  subst hs
  have e20 : (2 : Nat) ^ 20 = 1048576 := by decide
  refine wpAny_list_append_plain (items := vs.toArray) ⟨n, hl⟩ (fun h' hp hs => ?_) (by rw [sizeLine_eq, List.size_toArray]; omega)
  obtain ⟨n', hp⟩ := hp
  refine ⟨h', _, rfl, k h' n' (by rw [hp]; simp) fun b o ne e => hs.extBut b o ne e⟩
theorem l_pop {l : Addr} {vs : List Value} {n : Nat} {y : Value} {P : Value → Heap → Prop} (hl : h.get? l = some (lobj (vs ++ [y]) n)) (hz : vs.length ≤ 2 ^ 19) (k : ∀ h' n', h'.get? l = some (lobj vs n') → (∀ b o, b ≠ l → h.get? b = some o → h'.get? b = some o) → P y h') : hw (model prog w) A (call (.builtin "list.pop") [.ref l]) P h := hw.of fun s hs => by
  subst hs
  have e20 : (2 : Nat) ^ 19 = 524288 := by decide
  have hsz : (vs ++ [y]).toArray.size ≤ sizeLine := by rw [sizeLine_eq, List.size_toArray, List.length_append]; show vs.length + 1 ≤ _; omega
  have hk : (vs ++ [y]).toArray.size - 1 = vs.length := by rw [List.size_toArray, List.length_append]; rfl
  have hy : (vs ++ [y]).toArray[(vs ++ [y]).toArray.size - 1]? = some y := by rw [hk]; simp
  refine call_meets PySem.F.slot_list_pop ⟨_, hl, rfl⟩ PySem.F.entry_list_pop (PySem.F.args_list_pop_1 _) (PySem.MeetsSeq.list_pop_last l _ n y hy hsz) ⟨hl, _, _, rfl, ?_⟩
  have up := (Heap.SameBut.update s.heap l (Obj.mapSeq fun xs => xs.eraseIdxIfInBounds ((vs ++ [y]).toArray.size - 1)))
  have e1 : Obj.mapSeq (fun xs => xs.eraseIdxIfInBounds ((vs ++ [y]).toArray.size - 1)) (lobj (vs ++ [y]) n) = lobj vs (n + 1) := by
    have e2 : (vs ++ [y]).toArray.eraseIdxIfInBounds ((vs ++ [y]).toArray.size - 1) = vs.toArray := by
      rw [hk]
      simp [Array.eraseIdxIfInBounds, List.eraseIdx_append_of_length_le]
    simp only [Obj.mapSeq, lobj, e2]
    simp
  refine k _ (n + 1) ?_ fun b o ne e => up.extBut b o ne e
  rw [Heap.get?_update_self _ hl (by rw [e1]; rfl), e1]
theorem h_expr {e : Expr} {pos : Pos} {P : Flow → Heap → Prop} (x : hw (model prog w) A (eval e env) (fun v h' => (∀ r, v ≠ .ref r) ∧ P .next h') h) (hi : interactive env = false := by rfl) (hs : swapsWith e none pos.line env = pure false := by rfl) : hw (model prog w) A (exec (.Expr e pos) env) P h := hw.mk fun g d k o =>
  wpAny_Expr (wpAny_mono (x.go g d k o) (fun v s' q => by
    obtain ⟨h', k', rfl, q1, q⟩ := q
    cases v with
    | ref r => exact q1 r rfl
    | _ => exact ⟨_, _, rfl, q⟩) fun _ _ q => q) hi hs
theorem h_and {e₁ e₂ : Expr} {pos : Pos} {P : Value → Heap → Prop} (x : hw (model prog w) A (eval e₁ env) (fun v h' => ∃ b, v = .bool b ∧ if b then hw (model prog w) A (eval e₂ env) P h' else P (.bool false) h') h) : hw (model prog w) A (eval (.BoolOp .And [e₁, e₂] pos) env) P h := hw.mk fun g d k o =>
  BoolOp_and (wpAny_mono (x.go g d k o) (fun v s' q => by
    obtain ⟨h', k', rfl, b, rfl, q⟩ := q
    refine wpAny_truthy_bool ?_
    cases b with
    | true => exact BoolOp_one (q.go g d k' o)
    | false => exact ⟨_, _, rfl, q⟩) fun _ _ q => q)
theorem h_isName {x : Str} {p : Pos} {b : Bool} {P : Bool → Heap → Prop} (F : Fm S L m h) (hl : scope.names.lookup x = some .local) (hk : scope.kind = .function) (k : P b h) (hv : m x = some (.bool b) := by repeat first | exact upd_eq | refine upd_ne (by decide) ?_) (hd : (x == ("__debug__" : Str)) = false := by decide) : hw (model prog w) A (isTrue (.Name x p) (envOf name scope L a cd) (eval (.Name x p) (envOf name scope L a cd))) P h := hw.mk fun g d tk o =>
  wpAny_isTrue_value (wpAny_mono ((h_local (P := fun v h' => v = .bool b ∧ P b h') F hl hk hv ⟨rfl, k⟩ hd).go g d tk o) (fun v s' q => by
    obtain ⟨h', k', rfl, rfl, q⟩ := q
    exact wpAny_truthy_bool ⟨_, _, rfl, q⟩) fun _ _ q => q)
/-! names of any frame -/
theorem hE_loc {env : Env} {x : Str} {pos : Pos} {v : Value} {m : Str → Option Value} {P : Value → Heap → Prop} (hn : h.Ns env.locals m) (hl : env.kindOf x = some .local) (hk : env.scope.kind = .function) (hv : m x = some v) (k : P v h) (hd : (x == ("__debug__" : Str)) = false := by decide) : hw (model prog w) A (eval (.Name x pos) env) P h := by
  refine hw.of fun s hs => ?_
  subst hs
  exact wpAny_Name (wpAny_loadName_local hk hl hn hv ⟨_, _, rfl, k⟩) hd
theorem hE_glob {env : Env} {x : Str} {pos : Pos} {v : Value} {mg : Str → Option Value} {P : Value → Heap → Prop} (G : h.Ns env.globals mg) (hl : env.kindOf x = some .globalImplicit) (hk : env.scope.kind = .function) (hv : mg x = some v) (k : P v h) (hd : (x == ("__debug__" : Str)) = false := by decide) : hw (model prog w) A (eval (.Name x pos) env) P h := by
  refine hw.of fun s hs => ?_
  subst hs
  exact Calls.Name_function_global hk hl (Calls.loadGlobal_global (env := env) G hv ⟨_, _, rfl, k⟩) hd
end
end Mine
end
/-! part Fn12 -/
section
set_option maxRecDepth 100000
set_option linter.unusedVariables false
open PySem PySem.W
namespace Mine
open PyProof.Rows PySem.Calls
theorem warm12 : PySem.Challenge.rw_st0017_01 = PySem.Challenge.rw_st0017_01 ∧ K = K := by
  k_fill
  exact ⟨rfl, rfl⟩
/-- values are tuples of the pieces' texts -/
inductive Rg (h : Heap) : List Value → List PP → Prop
  | nil : Rg h [] []
  | cons {v p vs ps} : IsP v p h → Rg h vs ps → Rg h (v :: vs) (p :: ps)
theorem IsP.tups {v : Value} {p : PP} {h h' : Heap} (x : IsP v p h) (k : Tups h h') : IsP v p h' := by
  obtain ⟨a, t, u, e, q⟩ := x
  exact ⟨a, t, u, e, k _ _ rfl ⟨_, _, rfl⟩ q⟩
theorem Rg.imp {h h' : Heap} (k : Tups h h') : ∀ {vs ps}, Rg h vs ps → Rg h' vs ps
  | _, _, .nil => .nil
  | _, _, .cons a r => .cons (a.tups k) (r.imp k)
theorem Rg.length {h : Heap} : ∀ {vs ps}, Rg h vs ps → vs.length = ps.length
  | _, _, .nil => rfl
  | _, _, .cons a r => by simp [r.length]
theorem Rg.append {h : Heap} : ∀ {vs ps ws qs}, Rg h vs ps → Rg h ws qs → Rg h (vs ++ ws) (ps ++ qs)
  | _, _, _, _, .nil, y => y
  | _, _, _, _, .cons a r, y => .cons a (r.append y)
theorem Rg.take {h : Heap} : ∀ {vs ps} (n : Nat), Rg h vs ps → Rg h (vs.take n) (ps.take n)
  | _, _, 0, _ => by simpa using Rg.nil
  | _, _, n + 1, .nil => by simpa using Rg.nil
  | _, _, n + 1, .cons a r => by simpa using Rg.cons a (r.take n)
theorem Rg.drop {h : Heap} : ∀ {vs ps} (n : Nat), Rg h vs ps → Rg h (vs.drop n) (ps.drop n)
  | _, _, 0, x => x
  | _, _, n + 1, .nil => by simpa using Rg.nil
  | _, _, n + 1, .cons a r => by simpa using r.drop n
theorem Rg.get {h : Heap} : ∀ {vs ps}, Rg h vs ps → ∀ (j : Nat) (v : Value), vs[j]? = some v → ∃ p, ps[j]? = some p ∧ IsP v p h
  | _, _, .cons a r, 0, v, e => by cases e; exact ⟨_, rfl, a⟩
  | _, _, .cons a r, j + 1, v, e => by
    obtain ⟨p, e', q⟩ := r.get j v (by simpa using e)
    exact ⟨p, by simpa using e', q⟩
theorem rg_of {h : Heap} : ∀ {vs rs : List Value} {ns : List Int}, IntsAre vs ns → Both (fun v r h => ∀ n t, v = .int n t → IsP r (pieceP n) h) h vs rs → Rg h rs (ns.map pieceP)
  | _, _, _, .nil, .nil => .nil
  | _, _, _, .cons n t r, .cons a b => .cons (a n t rfl) (rg_of r b)
theorem ints_of {h : Heap} : ∀ {vs rs : List Value} {ns : List Int}, IntsAre vs ns → Both (fun v r h => ∀ n t, v = .int n t → ∃ t', r = .int (n.fmod 1000000) t') h vs rs → IntsAre rs (ns.map fun k => k.fmod 1000000)
  | _, _, _, .nil, .nil => .nil
  | _, _, _, .cons n t r, .cons a b => by
    obtain ⟨t', e⟩ := a n t rfl
    rw [e]
    exact .cons _ _ (ints_of r b)
theorem ints_take : ∀ {vs : List Value} {ns : List Int} (n : Nat), IntsAre vs ns → IntsAre (vs.take n) (ns.take n)
  | _, _, 0, _ => by simpa using IntsAre.nil
  | _, _, n + 1, .nil => by simpa using IntsAre.nil
  | _, _, n + 1, .cons a t r => by simpa using IntsAre.cons a t (ints_take n r)
theorem ints_drop : ∀ {vs : List Value} {ns : List Int} (n : Nat), IntsAre vs ns → IntsAre (vs.drop n) (ns.drop n)
  | _, _, 0, x => x
  | _, _, n + 1, .nil => by simpa using IntsAre.nil
  | _, _, n + 1, .cons a t r => by simpa using ints_drop n r
theorem ints_mem : ∀ {vs : List Value} {ns : List Int}, IntsAre vs ns → ∀ v ∈ vs, ∃ n ∈ ns, ∃ t, v = .int n t
  | _, _, .cons a t r, v, h => by
    cases h with
    | head => exact ⟨a, by simp, t, rfl⟩
    | tail _ q =>
      obtain ⟨n, hn, e⟩ := ints_mem r v q
      exact ⟨n, by simp [hn], e⟩
theorem ints_last : ∀ {vs : List Value} {ns : List Int}, IntsAre vs ns → ns ≠ [] → ∃ us y n t, vs = us ++ [y] ∧ y = .int n t ∧ IntsAre us ns.dropLast
  | _, _, .nil, h => absurd rfl h
  | _, _, .cons a t .nil, _ => ⟨[], _, a, t, rfl, rfl, .nil⟩
  | _, _, .cons a t (.cons b u r), _ => by
    obtain ⟨us, y, n, t', e1, e2, e3⟩ := ints_last (.cons b u r) (by simp)
    exact ⟨.int a t :: us, y, n, t', by rw [e1]; rfl, e2, .cons a t e3⟩
theorem past_tups {D : Addr → Prop} {h h' : Heap} (x : Past D h h') (k : ∀ b o, D b → h.get? b = some o → ¬ (o.cls = .type "tuple" ∧ ∃ xs n, o.data = .seq xs n)) : Tups h h' := fun b o ct cd e => by
  by_cases db : D b
  · exact absurd ⟨ct, cd⟩ (k b o db e)
  · exact x b o db e
theorem grow_tups {h h' : Heap} (g : Grow h h') : Tups h h' := fun b o _ _ e => g b o e
theorem all_tups {L : Addr} {S : Addr → Obj → Prop} {m m' : Str → Option Value} {h h' : Heap} (F : Fm S L m h) (F' : Fm (AllBut L h) L m' h') : Tups h h' := fun b o ct cd e => F'.keep _ _ ⟨e, by
  rintro rfl
  exact ns_tup F.ns e ct cd⟩

section
variable {w : World} {A : Around} {h h0 : Heap} {mg mb : Str → Option Value} {L a : Addr} {m : Str → Option Value}
theorem c_law (fa : Addr) (cdv : Value) (B : Base w mg mb h0) (hA : A.handled = none) (hroom : A.depth + 4 < recursionLimit) (hu : A.units + 64 < cLine) {ks : List Int} {vs : List Value} (hL : h0.IsList a vs.toArray) (hi : IntsAre vs ks) (hz : vs.length ≤ 63)
    (F : Fm (fun b o => h0.get? b = some o) L m h) (hm : m (Str.ofString "script") = some (.ref a)) : hw (model pw w) A (execs bd21 (envOf (Str.ofString "law") sc21 L fa cdv)) (fun fl h' => fl = .ret (.bool true) ∧ Grow h0 h') h := by
  rw [bd21]
  conv => arg 3; arg 1; whnf
  have e20 : (2 : Nat) ^ 20 = 1048576 := by decide
  have R := From.of F
  refine h_cons (h_assignComp (fun v r h => ∀ n t, v = .int n t → ∃ t', r = .int (n.fmod 1000000) t') (fun v y h h' x _ => x) hA (by kernel_rfl) (by kernel_rfl) (by decide +kernel) rfl (by decide +kernel) (by kernel_rfl) sc21_numbers sc21_k ?_)
  refine h_slice (h_loc (v := .ref a) F sc21_script sc21_k (p_none (p_some (h_int fun t => ?_))) hm)
  have hLh : h.IsList a vs.toArray := hL.at fun o e => (R.go _ o e).1
  refine ⟨a, vs, none, some 8, rfl, hLh, by omega, .none, .int _ _, fun l h₁ g₁ n₁ hl => ?_⟩
  have e8 : slicePick vs.toArray none (some 8) none = (vs.take 8).toArray := slicePick_upto' vs.toArray 8
  rw [e8, List.toList_toArray] at hl
  have F₁ := F.grow g₁
  refine ⟨l, vs.take 8, 0, _, _, rfl, hl, by rw [List.length_take]; omega, F₁.all, ?_, ?_⟩
  · intro C v h₂ m₂ hv g₂ hn hx
    obtain ⟨n, _, tn, rfl⟩ := ints_mem (ints_take 8 hi) v hv
    refine h_binop (hE_loc (v := .int n tn) hn (by kernel_rfl) (by kernel_rfl) hx ?_)
    refine h_binop (h_int fun t1 => h_int fun t2 => i_pow (by decide) (by decide) fun t3 => ?_)
    rw [show ((10 : Int) ^ (6 : Int).toNat) = 1000000 by decide]
    refine i_mod (by decide) fun t4 => ⟨.refl, fun n' t' e => ?_⟩
    cases e
    exact ⟨t4, rfl⟩
  intro D1 ys1 c1 h₂ nD1 F₂ hD1 both1
  have hn1 : IntsAre ys1 (nums1 ks) := ints_of (ints_take 8 hi) both1
  have R₂ := (R.grow g₁).next F₂
  have B₂ := B.grow R₂.G
  have hlen1 := hn1.length
  have hlen8 : (nums1 ks).length ≤ 8 := by rw [nums1, List.length_map, List.length_take]; omega
  refine h_cons (h_assign sc21_numbers sc21_k (h_binop (h_loc (v := .ref D1) F₂ sc21_numbers sc21_k ?_)))
  refine h_slice (h_List (hs_ints rfl fun us hus => h_newList (by rw [hus.length]; decide) fun l2 h₃ g₃ n₃ hl2 => ?_))
  replace hus : IntsAre us fillL := hus
  have hD1₃ := g₃ _ _ hD1
  have B₃ := B₂.grow g₃
  refine p_some (h_callB (id := "len") (fun q => h_builtin B₃.g B₃.b sc21_len sc21_k (no_len B₃) (bt_len B₃) q) ?_)
  refine hs_cons (h_loc (v := .ref D1) (F₂.grow g₃) sc21_numbers sc21_k (hs_nil (l_len hD1₃ (by omega) fun t5 => p_none ?_)))
  refine ⟨l2, us, some _, none, rfl, ⟨_, hl2, rfl, _, rfl⟩, by rw [hus.length]; decide, .int _ _, .none, fun l3 h₄ g₄ n₄ hl3 => ?_⟩
  rw [slicePick_from', List.toList_toArray] at hl3
  refine l_add (g₄ _ _ hD1₃) hl3 (by rw [List.length_drop, hus.length, show fillL.length = 8 from rfl]; omega) fun N h₅ g₅ n₅ hN => ?_
  have F₅ := F₂.grow (g₃.trans (g₄.trans g₅))
  refine ⟨_, _, F₅.all, fun h₆ F₆ => ?_⟩
  have R₆ := (R₂.grow (g₃.trans (g₄.trans g₅))).next F₆
  have B₆ := B.grow R₆.G
  have hN₆ := F₆.keep _ _ ⟨hN, F₅.ne_seq hN rfl⟩
  have hnums : IntsAre (ys1 ++ us.drop ys1.length) (numsOf ks) := by
    show IntsAre _ (nums1 ks ++ fillL.drop (nums1 ks).length)
    rw [← hlen1]
    exact hn1.append (ints_drop ys1.length hus)
  have hnl := nums_len ks
  have hnvl : (ys1 ++ us.drop ys1.length).length = 8 := by rw [hnums.length, hnl]
  generalize ys1 ++ us.drop ys1.length = nv at hN₆ hnums hnvl
  refine h_cons (h_assignComp (fun v r h => ∀ n t, v = .int n t → IsP r (pieceP n) h) (fun v y h h' x k n t e => (x n t e).tups k) hA (by kernel_rfl) (by kernel_rfl) (by decide +kernel) rfl (by decide +kernel) (by kernel_rfl) sc21_ring sc21_k ?_)
  refine h_loc (v := .ref N) F₆ sc21_numbers sc21_k ⟨N, nv, 0, _, _, rfl, hN₆, by omega, F₆.all, ?_, ?_⟩
  · intro C v h₇ m₂ hv g₇ hn hx
    obtain ⟨n, hn1, tn, rfl⟩ := ints_mem hnums v hv
    obtain ⟨b0, b1⟩ := nums_bound ks n hn1
    have B₇ := B₆.grow g₇
    refine h_callF (f := 168) (fo := o168 w.params) (fun q => hE_glob B₇.g (by kernel_rfl) (by kernel_rfl) (mg_law_piece B₇) q) rfl ?_
    refine hs_cons (hE_loc (v := .int n tn) hn (by kernel_rfl) (by kernel_rfl) hx (hs_nil ⟨B₇.X _ _ (by k_is), hc.call (hc_mono (c_piece B₇ hA (by omega) n tn b0 b1) fun v h₈ q => ⟨q.1, fun n' t' e => ?_⟩)⟩))
    cases e
    exact q.2
  intro RL rs c2 h₇ nRL F₇ hRL₇ both2
  have R₇ := R₆.next F₇
  have hRg₇ : Rg h₇ rs (ringOf ks) := rg_of hnums both2
  have hrl : rs.length = 8 := by rw [← both2.length]; exact hnvl
  have hring := ring_len ks
  have hsteps := steps_ring ks
  have hblks := blks_ring ks
  generalize hrr : ringOf ks = ring at hRg₇ hring hsteps hblks
  have rsteps : ∀ i j, Steps ((rot ring i).take j) := fun i j p hp => hsteps p (rot_mem p (List.mem_of_mem_take hp))
  have rblks : ∀ i j, Blks ((rot ring i).take j) := fun i j p hp => hblks p (rot_mem p (List.mem_of_mem_take hp))
  clear both2 hnums hN₆ hN hl3 hl2 hD1₃ hD1 hl
  refine h_cons (h_assign sc21_good sc21_k (h_List (hs_nil (h_newList (by decide) fun GL h₈ g₈ n₈ hGL => ⟨_, _, (F₇.grow g₈).all, fun h₉ F₉ => ?_⟩))))
  have hGL₉ := F₉.keep _ _ ⟨hGL, (F₇.grow g₈).ne_seq hGL rfl⟩
  have hRL₉ := F₉.keep _ _ ⟨g₈ _ _ hRL₇, (F₇.grow g₈).ne_seq (g₈ _ _ hRL₇) rfl⟩
  have hRg₉ := (hRg₇.imp (grow_tups g₈)).imp (all_tups (F₇.grow g₈) F₉)
  have R₉ := (R₇.grow g₈).next F₉
  have hne : RL ≠ GL := by
    rintro rfl
    rw [n₈] at hRL₇; cases hRL₇
  refine h_cons (h_assign sc21_shorter sc21_k (h_int fun t6 => ⟨_, _, F₉.all, fun hA₁ FA => ?_⟩))
  have hGL_A := FA.keep _ _ ⟨hGL₉, F₉.ne_seq hGL₉ rfl⟩
  have hRL_A := FA.keep _ _ ⟨hRL₉, F₉.ne_seq hRL₉ rfl⟩
  have hRg_A := hRg₉.imp (all_tups F₉ FA)
  have RA := R₉.next FA
  have nG0 : h0.get? GL = none := by
    cases e : h0.get? GL with
    | none => rfl
    | some o => have := R₇.G _ _ e; rw [n₈] at this; cases this
  have keep0 : ∀ h', Past (fun b => b = L ∨ b = GL) hA₁ h' → Grow h0 h' := fun h' p b o e => by
    have q := RA.go b o e
    refine p b o ?_ q.1
    rintro (q' | rfl)
    · exact q.2 q'
    · rw [nG0] at e; cases e
  have nDR : ¬ ((fun b => b = L ∨ b = GL) RL) := by
    rintro (q | q)
    · exact FA.ne_seq hRL_A rfl q
    · exact hne q
  have tupsA : ∀ h', Past (fun b => b = L ∨ b = GL) hA₁ h' → Tups hA₁ h' := fun h' p => past_tups p fun b o db e ct => by
    rcases db with rfl | rfl
    · exact ns_tup FA.ns e ct.1 ct.2
    · rw [hGL_A] at e; cases e
      exact absurd (show Value.type "list" = Value.type "tuple" from ct.1) (by decide)
  have BA := B.grow RA.G
  refine h_cons (h_for 8 (fun i v => ∃ t', v = .int (i : Int) t') (fun b => b = L ∨ b = GL)
    (fun i h' => ∃ m gv gn sh tH, h'.Ns L m ∧ m (Str.ofString "ring") = some (.ref RL) ∧ m (Str.ofString "good") = some (.ref GL) ∧ m (Str.ofString "shorter") = some (.int sh tH) ∧ h'.get? GL = some (lobj gv gn) ∧ IntsAre gv (goods ring i) ∧
      (0 < i → sh = dif (rot ring (i - 1)) ∧ (∃ t, m (Str.ofString "stretch") = some (.str (St (cat1 (rot ring (i - 1)))) t)) ∧ (∃ t, m (Str.ofString "due") = some (.str (St (cat2 (rot ring (i - 1)))) t)))) hA ?_ ?_ ?_ ?_)
  · rintro i h' h'' ⟨m, gv, gn, sh, tH, n, a1, a2, a3, a4, a5⟩ k
    obtain ⟨o, es, ep, eo, r⟩ := n
    exact ⟨m, gv, gn, sh, tH, ⟨o, es, ep, k _ _ (.inl rfl) eo, r⟩, a1, a2, a3, k _ _ (.inr rfl) a4, a5⟩
  · refine h_callT (T := "range") (fun q => h_builtin BA.g BA.b sc21_range sc21_k (no_range BA) (bt_range BA) q) ?_
    refine hs_cons (h_int fun t7 => hs_nil (r_range (by decide) (by decide) fun r hB gB nB kr => ?_))
    refine ⟨⟨_, [], 0, 0, t6, FA.ns.keeps gB, upd_ne (by decide) (upd_ne (by decide) upd_eq), upd_ne (by decide) upd_eq, upd_eq, gB _ _ hGL_A, .nil, fun q => absurd q (by decide)⟩, gB.past, ?_⟩
    refine kr (fun b db => ?_) fun it h'' q => q
    rcases db with rfl | rfl
    · exact (FA.grow gB).there
    · exact ⟨_, gB _ _ hGL_A⟩
  · rintro i v hB hi8 ⟨tv, rfl⟩ ⟨m, gv, gn, sh, tH, n, a1, a2, a3, a4, a5, a6⟩ p
    have GLne : GL ≠ L := by
      rintro rfl
      obtain ⟨o, es, ep, e, d, _⟩ := n
      rw [a4] at e; cases e; cases d
    refine h_asgnN ((Fm.out (D := fun b => b = L ∨ b = GL) n (.inl rfl)).learn a4 GLne) sc21_start sc21_k fun hC FC => ?_
    refine h_cons (h_assign sc21_stretch sc21_k (h_str fun t8 => ⟨_, _, FC, fun hD FD => ?_⟩))
    refine h_cons (h_assign sc21_due sc21_k (h_str fun t9 => ⟨_, _, FD, fun hE FE => ?_⟩))
    refine h_cons (h_assign sc21_below sc21_k (h_bool ⟨_, _, FE, fun hF FF => ?_⟩))
    have pF : Past (fun b => b = L ∨ b = GL) hA₁ hF := p.trans (fun b o d e => FF.keep b o (.inl ⟨e, d⟩))
    have BF := B.grow (keep0 _ pF)
    have hRF := pF _ _ nDR hRL_A
    have hRgF := hRg_A.imp (tupsA _ pF)
    generalize hrt : rot ring i = rr
    have hrr8 : rr.length = 8 := by rw [← hrt, rot_len, hring]
    have hrv : Rg hF (rs.drop i ++ rs.take i) rr := by rw [← hrt]; exact (hRgF.drop i).append (hRgF.take i)
    have hvl : (rs.drop i ++ rs.take i).length = 8 := by rw [hrv.length, hrr8]
    have hpage : ∀ j, j ≤ 8 → page (cat1 (rr.take j)) = cat2 (rr.take j) := fun j _ => by rw [← hrt]; exact page_cat (rblks i j)
    have hcat : ∀ j, j ≤ 8 → (cat1 (rr.take j)).length ≤ 24 ∧ (cat2 (rr.take j)).length ≤ 100 := fun j hj => by
      have q := cat_len (rsteps i j)
      have q2 : ((rot ring i).take j).length ≤ 8 := by rw [List.length_take]; omega
      rw [← hrt]; omega
    refine h_cons (h_for 8 (fun j v => (rs.drop i ++ rs.take i)[j]? = some v) (fun b => b = L)
      (fun j h' => ∃ m sh tH tS tD, h'.Ns L m ∧ m (Str.ofString "ring") = some (.ref RL) ∧ m (Str.ofString "good") = some (.ref GL) ∧ m (Str.ofString "start") = some (.int i tv) ∧ m (Str.ofString "shorter") = some (.int sh tH) ∧
        m (Str.ofString "stretch") = some (.str (St (cat1 (rr.take j))) tS) ∧ m (Str.ofString "due") = some (.str (St (cat2 (rr.take j))) tD) ∧ m (Str.ofString "below") = some (.bool (belowB rr j)) ∧ (0 < j → sh = dif (rr.take j))) hA ?_ ?_ ?_ ?_)
    · rintro j h' h'' ⟨m, sh, tH, tS, tD, n, b1, b2, b3, b4, b5, b6, b7, b8⟩ k
      obtain ⟨o, es, ep, eo, r⟩ := n
      exact ⟨m, sh, tH, tS, tD, ⟨o, es, ep, k _ _ rfl eo, r⟩, b1, b2, b3, b4, b5, b6, b7, b8⟩
    · refine h_binop (h_slice (h_loc (v := .ref RL) FF sc21_ring sc21_k (p_some (h_loc (v := .int i tv) FF sc21_start sc21_k (p_none ?_) (by repeat first | exact upd_eq | refine upd_ne (by decide) ?_))) (by repeat first | exact a1 | exact upd_eq | refine upd_ne (by decide) ?_)))
      refine ⟨RL, rs, some (i : Int), none, rfl, ⟨_, hRF, rfl, _, rfl⟩, by omega, .int _ _, .none, fun x1 hG gG nG hx1 => ?_⟩
      rw [slicePick_from', List.toList_toArray] at hx1
      refine h_slice (h_loc (v := .ref RL) (FF.grow gG) sc21_ring sc21_k (p_none (p_some (h_loc (v := .int i tv) (FF.grow gG) sc21_start sc21_k ?_ (by repeat first | exact upd_eq | refine upd_ne (by decide) ?_)))) (by repeat first | exact a1 | exact upd_eq | refine upd_ne (by decide) ?_))
      refine ⟨RL, rs, none, some (i : Int), rfl, ⟨_, gG _ _ hRF, rfl, _, rfl⟩, by omega, .none, .int _ _, fun x2 hH gH nH hx2 => ?_⟩
      rw [slicePick_upto', List.toList_toArray] at hx2
      refine l_add (gH _ _ hx1) hx2 (by rw [← List.length_append, hvl]; decide) fun x3 hI gI nI hx3 => ?_
      have gF := gG.trans (gH.trans gI)
      refine ⟨⟨_, sh, tH, t8, t9, FF.ns.keeps gF, ?_, ?_, ?_, ?_, ?_, ?_, ?_, fun q => absurd q (by decide)⟩, gF.past, ?_⟩
      · repeat first | exact a1 | exact upd_eq | refine upd_ne (by decide) ?_
      · repeat first | exact a2 | exact upd_eq | refine upd_ne (by decide) ?_
      · repeat first | exact upd_eq | refine upd_ne (by decide) ?_
      · repeat first | exact a3 | exact upd_eq | refine upd_ne (by decide) ?_
      · repeat first | exact upd_eq | refine upd_ne (by decide) ?_
      · repeat first | exact upd_eq | refine upd_ne (by decide) ?_
      · repeat first | exact upd_eq | refine upd_ne (by decide) ?_
      · refine iter_list hx3 ?_ (fun b db => by rw [show b = L from db]; exact (FF.grow gF).there) fun it h'' q => ?_
        · exact (FF.grow gF).ne_seq hx3 rfl
        · rw [hvl] at q; exact q
    · rintro j v hG hj hv ⟨m, sh, tH, tS, tD, n, b1, b2, b3, b4, b5, b6, b7, b8⟩ p2
      obtain ⟨pp, e1, e2⟩ := hrv.get j v hv
      have tupsF : Tups hF hG := past_tups p2 fun b o db e ct => by
        rw [show b = L from db] at e
        exact ns_tup FF.ns e ct.1 ct.2
      obtain ⟨T, tx, ty, rfl, hT⟩ := e2.tups tupsF
      have hjl : j < rr.length := by omega
      rw [List.getElem?_eq_getElem hjl] at e1
      have c1 := cat1_take hjl
      have c2 := cat2_take hjl
      rw [Option.some.inj e1] at c1 c2
      obtain ⟨z1, z2⟩ := hcat (j + 1) (by omega)
      rw [c1, List.length_append] at z1
      rw [c2, List.length_append] at z2
      have sl : ∀ l : List Nat, (St l).length = l.length := fun l => by show Array.size _ = _; simp
      refine h_asgn2 hA (Fm.out (D := fun b => b = L) n rfl) hT sc21_spelled sc21_sent sc21_k fun hH FH => ?_
      refine h_cons (h_assign sc21_stretch sc21_k (h_binop (h_loc (v := .str (St (cat1 (rr.take j))) tS) FH sc21_stretch sc21_k ?_ (by repeat first | exact b5 | exact upd_eq | refine upd_ne (by decide) ?_))))
      refine h_loc (v := .str (St pp.1) tx) FH sc21_spelled sc21_k (s_add (by rw [sl, sl]; omega) fun t10 => ?_)
      rw [St_append, ← c1]
      refine ⟨_, _, FH, fun hI FI => ?_⟩
      refine h_cons (h_assign sc21_due sc21_k (h_binop (h_loc (v := .str (St (cat2 (rr.take j))) tD) FI sc21_due sc21_k ?_ (by repeat first | exact b6 | exact upd_eq | refine upd_ne (by decide) ?_))))
      refine h_loc (v := .str (St pp.2) ty) FI sc21_sent sc21_k (s_add (by rw [sl, sl]; omega) fun t11 => ?_)
      rw [St_append, ← c2]
      refine ⟨_, _, FI, fun hJ FJ => ?_⟩
      have BJ : Base w mg mb hJ := B.grow (fun b o e => by
        have q := RA.go b o e
        exact FJ.keep _ _ ⟨p2 b o q.2 (pF b o (by rintro (q' | rfl); exact q.2 q'; rw [nG0] at e; cases e) q.1), q.2⟩)
      refine h_cons (h_assign sc21_page sc21_k (h_callF (f := 175) (fo := o175 w.params) (fun q => h_global BJ.g sc21_law_page sc21_k (mg_law_page BJ) q) rfl ?_))
      refine hs_cons (h_loc (v := .str (St (cat1 (rr.take (j + 1)))) t10) FJ sc21_stretch sc21_k (hs_nil ⟨BJ.X _ _ (by k_is), hc.call (hc_mono (c_page BJ hA (by omega) _ t10 (by rw [c1, List.length_append]; omega)) fun v hK q => ?_)⟩))
      obtain ⟨gK, t12, rfl⟩ := q
      rw [hpage (j + 1) (by omega)]
      refine ⟨_, _, FJ.grow gK, fun hM FM => ?_⟩
      refine h_cons (h_if (h_test (h_loc (v := .str (St (cat2 (rr.take (j + 1)))) t12) FM sc21_page sc21_k (h_loc (v := .str (St (cat2 (rr.take (j + 1)))) t11) FM sc21_due sc21_k (s_ne (h_truthy ?_))))))
      rw [bne_self_eq_false]
      refine h_nil ?_
      have BM : Base w mg mb hM := B.grow (fun b o e => by
        have q := RA.go b o e
        exact FM.keep _ _ ⟨p2 b o q.2 (pF b o (by rintro (q' | rfl); exact q.2 q'; rw [nG0] at e; cases e) q.1), q.2⟩)
      refine h_cons (h_assign sc21_shorter sc21_k (h_binop ?_))
      refine h_callB (id := "len") (fun q => h_builtin BM.g BM.b sc21_len sc21_k (no_len BM) (bt_len BM) q) ?_
      refine hs_cons (h_loc (v := .str (St (cat1 (rr.take (j + 1)))) t10) FM sc21_stretch sc21_k (hs_nil (s_len (by rw [c1, List.length_append]; omega) fun t13 => ?_)))
      refine h_callB (id := "len") (fun q => h_builtin BM.g BM.b sc21_len sc21_k (no_len BM) (bt_len BM) q) ?_
      refine hs_cons (h_loc (v := .str (St (cat2 (rr.take (j + 1)))) t12) FM sc21_page sc21_k (hs_nil (s_len (by rw [c2, List.length_append]; omega) fun t14 => i_sub fun t15 => ?_)))
      have ed : ((cat1 (rr.take (j + 1))).length : Int) - ((cat2 (rr.take (j + 1))).length : Int) = dif (rr.take (j + 1)) := rfl
      rw [ed]
      refine ⟨_, _, FM, fun hN FN => ?_⟩
      refine h_cons (h_if (h_test (h_loc (v := .int (dif (rr.take (j + 1))) t15) FN sc21_shorter sc21_k (h_int fun t16 => i_le (h_truthy ?_)))))
      have hbs := belowB_succ rr j
      by_cases cz : dif (rr.take (j + 1)) ≤ 0
      · rw [decide_eq_true cz]
        have : belowB rr (j + 1) = false := by rw [hbs, decide_eq_false (by omega), Bool.and_false]
        refine h_cons (h_assign sc21_below sc21_k (h_bool ⟨_, _, FN, fun hO FO => h_nil (h_nil ⟨⟨_, _, t15, t10, t11, FO.ns, ?_, ?_, ?_, ?_, ?_, ?_, ?_, fun _ => rfl⟩, FO.past⟩)⟩))
        · repeat first | exact b1 | exact upd_eq | refine upd_ne (by decide) ?_
        · repeat first | exact b2 | exact upd_eq | refine upd_ne (by decide) ?_
        · repeat first | exact b3 | exact upd_eq | refine upd_ne (by decide) ?_
        · repeat first | exact upd_eq | refine upd_ne (by decide) ?_
        · repeat first | exact upd_eq | refine upd_ne (by decide) ?_
        · repeat first | exact upd_eq | refine upd_ne (by decide) ?_
        · rw [this]; exact upd_eq
      · rw [decide_eq_false cz]
        have : belowB rr (j + 1) = belowB rr j := by rw [hbs, decide_eq_true (by omega), Bool.and_true]
        refine h_nil (h_nil ⟨⟨_, _, t15, t10, t11, FN.ns, ?_, ?_, ?_, ?_, ?_, ?_, ?_, fun _ => rfl⟩, FN.past⟩)
        · repeat first | exact b1 | exact upd_eq | refine upd_ne (by decide) ?_
        · repeat first | exact b2 | exact upd_eq | refine upd_ne (by decide) ?_
        · repeat first | exact b3 | exact upd_eq | refine upd_ne (by decide) ?_
        · repeat first | exact upd_eq | refine upd_ne (by decide) ?_
        · repeat first | exact upd_eq | refine upd_ne (by decide) ?_
        · repeat first | exact upd_eq | refine upd_ne (by decide) ?_
        · rw [this]; repeat first | exact b7 | exact upd_eq | refine upd_ne (by decide) ?_
    · rintro hG ⟨m, sh, tH, tS, tD, n, b1, b2, b3, b4, b5, b6, b7, b8⟩ p2
      have FG : Fm (fun b o => (Out (fun b => b = L ∨ b = GL) hB) b o) L m hG := ⟨n, fun b o q => p2 b o (fun e => q.2 (.inl e)) (FF.keep b o (.inl q)), fun o q => q.2 (.inl rfl)⟩
      have hGG : hG.get? GL = some (lobj gv gn) := p2 _ _ GLne (FF.keep _ _ (.inr ⟨rfl, rfl⟩))
      have e8 : rr.take 8 = rr := List.take_of_length_le (by omega)
      rw [e8] at b5 b6 b8
      have b8 := b8 (by decide)
      have hgs := goods_succ ring i
      rw [hrt] at hgs
      have hgl : gv.length ≤ 2 ^ 20 := by
        have q1 : (goods ring i).length ≤ i := by
          rw [goods, List.length_map]
          refine Nat.le_trans (List.length_filter_le _ _) ?_
          rw [List.length_range]; exact Nat.le_refl _
        rw [a5.length]; omega
      refine h_cons (h_if (h_isName FG sc21_below sc21_k ?_ b7))
      cases hb : belowB rr 8 with
      | true =>
        rw [hb, if_pos rfl] at hgs
        refine h_cons (h_expr (h_method "list" "list.append" PySem.F.plainAttrs_list PySem.F.slot_list_append PySem.F.type_list_append ?_) (hi := by kernel_rfl))
        refine h_loc (v := .ref GL) FG sc21_good sc21_k ⟨fun s e => ⟨_, by rw [e]; exact hGG, rfl⟩, fun a e => by cases e; exact ⟨_, hGG, rfl⟩, ?_⟩ b2
        refine hs_cons (h_loc (v := .int i tv) FG sc21_start sc21_k (hs_nil (l_append hGG hgl fun hH n' e1 e2 => ?_)) b3)
        refine ⟨fun r q => (nomatch q), ?_⟩
        have FH : Fm (fun b o => (Out (fun b => b = L ∨ b = GL) hB) b o) L m hH := FG.but e2 GLne fun o q => q.2 (.inr rfl)
        refine h_nil (h_nil ⟨⟨m, gv ++ [.int i tv], n', sh, tH, FH.ns, b1, b2, b4, e1, ?_, fun _ => ?_⟩, FH.past⟩)
        · rw [hgs]; exact a5.append (.cons _ _ .nil)
        · rw [Nat.add_sub_cancel, hrt]
          exact ⟨b8, ⟨tS, b5⟩, ⟨tD, b6⟩⟩
      | false =>
        rw [hb, if_neg (by decide), List.append_nil] at hgs
        refine h_nil (h_nil ⟨⟨m, gv, gn, sh, tH, FG.ns, b1, b2, b4, hGG, ?_, fun _ => ?_⟩, FG.past⟩)
        · rw [hgs]; exact a5
        · rw [Nat.add_sub_cancel, hrt]
          exact ⟨b8, ⟨tS, b5⟩, ⟨tD, b6⟩⟩
  · rintro hB ⟨m, gv, gn, sh, tH, n, a1, a2, a3, a4, a5, a6⟩ p
    obtain ⟨rfl, ⟨tS, a7⟩, ⟨tD, a8⟩⟩ := a6 (by decide)
    replace a7 : m (Str.ofString "stretch") = some (.str (St (cat1 (rot ring 7))) tS) := a7
    replace a8 : m (Str.ofString "due") = some (.str (St (cat2 (rot ring 7))) tD) := a8
    replace a3 : m (Str.ofString "shorter") = some (.int (dif (rot ring 7)) tH) := a3
    clear a6
    have FB : Fm (AllBut L hB) L m hB := ⟨n, fun b o x => x.1, fun o x => x.2 rfl⟩
    have RB : From h0 L hB := ⟨fun b o e => ⟨keep0 hB p b o e, (RA.go b o e).2⟩⟩
    have BB := B.grow RB.G
    have hRB := p _ _ nDR hRL_A
    have hRgB := hRg_A.imp (tupsA _ p)
    have hfin : page ([46, 10, 46] ++ cat1 (rot ring 7)) = [46, 46, 13, 10, 46, 46] ++ cat2 (rot ring 7) := page_dots fun p hp => hblks p (rot_mem p hp)
    have hlen7 : (cat1 (rot ring 7)).length ≤ 24 ∧ (cat2 (rot ring 7)).length ≤ 100 := by
      have q := cat_len (ps := rot ring 7) fun p hp => hsteps p (rot_mem p hp)
      have q2 := rot_len ring 7
      omega
    have sl : ∀ l : List Nat, (St l).length = l.length := fun l => by show Array.size _ = _; simp
    refine h_cons (h_if (h_test (h_callF (f := 175) (fo := o175 w.params) (fun q => h_global BB.g sc21_law_page sc21_k (mg_law_page BB) q) rfl ?_)))
    refine hs_cons (h_binop (h_str fun t20 => h_loc (v := .str (St (cat1 (rot ring 7))) tS) FB sc21_stretch sc21_k ?_ a7))
    rw [show Str.ofString ".\n." = St [46, 10, 46] by kernel_rfl]
    refine s_add (by rw [sl, sl]; show 3 + _ ≤ _; omega) fun t21 => hs_nil ⟨BB.X _ _ (by k_is), hc.call ?_⟩
    rw [St_append]
    refine hc_mono (c_page BB hA (by omega) _ t21 (by rw [List.length_append]; show 3 + _ ≤ _; omega)) fun v hC q => ?_
    obtain ⟨gC, t22, rfl⟩ := q
    refine h_binop (h_str fun t23 => h_loc (v := .str (St (cat2 (rot ring 7))) tD) (FB.grow gC) sc21_due sc21_k ?_ a8)
    rw [show Str.ofString "..\r\n.." = St [46, 46, 13, 10, 46, 46] by kernel_rfl]
    refine s_add (by rw [sl, sl]; show 6 + _ ≤ _; omega) fun t24 => s_ne (h_truthy ?_)
    rw [St_append, hfin, bne_self_eq_false]
    refine h_nil ?_
    have FC := (FB.grow gC).all
    have RC := RB.grow gC
    have hRC := gC _ _ hRB
    have hGC := gC _ _ a4
    have hRgC := hRgB.imp (grow_tups gC)
    refine h_cons (h_assign sc21_waiting sc21_k (h_List (hs_nil (h_newList (by decide) fun WL hD gD nD hWL => ⟨_, _, (FC.grow gD).all, fun hE FE => ?_⟩))))
    have hWLE := FE.keep _ _ ⟨hWL, (FC.grow gD).ne_seq hWL rfl⟩
    have hRE := FE.keep _ _ ⟨gD _ _ hRC, (FC.grow gD).ne_seq (gD _ _ hRC) rfl⟩
    have hGE := FE.keep _ _ ⟨gD _ _ hGC, (FC.grow gD).ne_seq (gD _ _ hGC) rfl⟩
    have hRgE := (hRgC.imp (grow_tups gD)).imp (all_tups (FC.grow gD) FE)
    have RE := (RC.grow gD).next FE
    have nWG : GL ≠ WL := by rintro rfl; rw [nD] at hGC; cases hGC
    have nWR : RL ≠ WL := by rintro rfl; rw [nD] at hRC; cases hRC
    have nW0 : h0.get? WL = none := by
      cases e : h0.get? WL with
      | none => rfl
      | some o => have := RC.G _ _ e; rw [nD] at this; cases this
    refine h_cons (h_assign sc21_over sc21_k (h_int fun t25 => ⟨_, _, FE.all, fun hF FF => ?_⟩))
    have hWLF := FF.keep _ _ ⟨hWLE, FE.ne_seq hWLE rfl⟩
    have hRF := FF.keep _ _ ⟨hRE, FE.ne_seq hRE rfl⟩
    have hGF := FF.keep _ _ ⟨hGE, FE.ne_seq hGE rfl⟩
    have hRgF := hRgE.imp (all_tups FE FF)
    have RF := RE.next FF
    have BF := B.grow RF.G
    have WLne : WL ≠ L := FF.ne_seq hWLF rfl
    have keep1 : ∀ h', Past (fun b => b = L ∨ b = WL) hF h' → Grow h0 h' := fun h' p b o e => by
      have q := RF.go b o e
      refine p b o ?_ q.1
      rintro (q' | rfl)
      · exact q.2 q'
      · rw [nW0] at e; cases e
    have nDR1 : ¬ ((fun b => b = L ∨ b = WL) RL) := by
      rintro (q | q)
      · exact FF.ne_seq hRF rfl q
      · exact nWR q
    have nDG1 : ¬ ((fun b => b = L ∨ b = WL) GL) := by
      rintro (q | q)
      · exact FF.ne_seq hGF rfl q
      · exact nWG q
    have tups1 : ∀ h', Past (fun b => b = L ∨ b = WL) hF h' → Tups hF h' := fun h' p => past_tups p fun b o db e ct => by
      rcases db with rfl | rfl
      · exact ns_tup FF.ns e ct.1 ct.2
      · rw [hWLF] at e; cases e
        exact absurd (show Value.type "list" = Value.type "tuple" from ct.1) (by decide)
    refine h_cons (h_for 8 (fun i v => ∃ t', v = .int (i : Int) t') (fun b => b = L ∨ b = WL)
      (fun i h' => ∃ m wv wn tO, h'.Ns L m ∧ m (Str.ofString "ring") = some (.ref RL) ∧ m (Str.ofString "good") = some (.ref GL) ∧ m (Str.ofString "waiting") = some (.ref WL) ∧ m (Str.ofString "shorter") = some (.int (dif (rot ring 7)) tH) ∧
        m (Str.ofString "over") = some (.int (waits ring i).2 tO) ∧ h'.get? WL = some (lobj wv wn) ∧ IntsAre wv (waits ring i).1) hA ?_ ?_ ?_ ?_)
    · rintro i h' h'' ⟨m, wv, wn, tO, n, b1, b2, b3, b4, b5, b6, b7⟩ k
      obtain ⟨o, es, ep, eo, r⟩ := n
      exact ⟨m, wv, wn, tO, ⟨o, es, ep, k _ _ (.inl rfl) eo, r⟩, b1, b2, b3, b4, b5, k _ _ (.inr rfl) b6, b7⟩
    · refine h_callT (T := "range") (fun q => h_builtin BF.g BF.b sc21_range sc21_k (no_range BF) (bt_range BF) q) ?_
      refine hs_cons (h_int fun t26 => hs_nil (r_range (by decide) (by decide) fun r hG gG nG kr => ?_))
      refine ⟨⟨_, [], 0, t25, FF.ns.keeps gG, ?_, ?_, ?_, ?_, ?_, gG _ _ hWLF, .nil⟩, gG.past, ?_⟩
      · repeat first | exact a1 | exact upd_eq | refine upd_ne (by decide) ?_
      · repeat first | exact a2 | exact upd_eq | refine upd_ne (by decide) ?_
      · repeat first | exact upd_eq | refine upd_ne (by decide) ?_
      · repeat first | exact a3 | exact upd_eq | refine upd_ne (by decide) ?_
      · exact upd_eq
      · refine kr (fun b db => ?_) fun it h'' q => q
        rcases db with rfl | rfl
        · exact (FF.grow gG).there
        · exact ⟨_, gG _ _ hWLF⟩
    · rintro i v hG hi8 ⟨tv, rfl⟩ ⟨m, wv, wn, tO, n, b1, b2, b3, b4, b5, b6, b7⟩ p1
      have WLneL : WL ≠ L := WLne
      refine h_asgnN ((Fm.out (D := fun b => b = L ∨ b = WL) n (.inl rfl)).learn b6 WLne) sc21_place sc21_k fun hH FH => ?_
      have pH : Past (fun b => b = L ∨ b = WL) hF hH := p1.trans (fun b o d e => FH.keep b o (.inl ⟨e, d⟩))
      have hRH := pH _ _ nDR1 hRF
      have hRgH := hRgF.imp (tups1 _ pH)
      have hil : i < rs.length := by omega
      obtain ⟨pp, e1, e2⟩ := hRgH.get i rs[i] (by simp [hil])
      have ed : ring.getD i ([], []) = pp := by rw [List.getD_eq_getElem?_getD, e1]; rfl
      obtain ⟨T, tx, ty, e3, hT⟩ := e2
      refine h_cons (h_assign2 hA sc21_spelled sc21_sent sc21_k (h_sub (h_loc (v := .ref RL) FH sc21_ring sc21_k (h_loc (v := .int i tv) FH sc21_place sc21_k ?_) (by repeat first | exact b1 | exact upd_eq | refine upd_ne (by decide) ?_))))
      refine l_item (v := rs[i]) hRH (by omega) (by simp [hil]) (by have e63 : (2 : Int) ^ 63 = 9223372036854775808 := (by decide); omega) ?_
      refine ⟨T, _, _, _, _, e3, hT, FH, fun hI FI => ?_⟩
      have hwl := waits_len ring i
      have hpl : pp.1.length ≤ 100 ∧ pp.2.length ≤ 100 := by
        have q := (hsteps pp (List.mem_of_getElem? e1)).2
        omega
      have hwpl := wpush_len (waits ring i) i pp
      refine h_cons (hw_mono (P := fun f h' => f = .next ∧ ∃ m wv wn, Fm (Out (fun b => b = L ∨ b = WL) hG) L m h' ∧ m (Str.ofString "ring") = some (.ref RL) ∧ m (Str.ofString "good") = some (.ref GL) ∧ m (Str.ofString "waiting") = some (.ref WL) ∧ m (Str.ofString "shorter") = some (.int (dif (rot ring 7)) tH) ∧
        m (Str.ofString "over") = some (.int (wpush (waits ring i) i pp).2 tO) ∧ m (Str.ofString "sent") = some (.str (St pp.2) ty) ∧ m (Str.ofString "spelled") = some (.str (St pp.1) tx) ∧ h'.get? WL = some (lobj wv wn) ∧ IntsAre wv (wpush (waits ring i) i pp).1) ?_ ?_)
      · have hWI := FI.keep _ _ (.inr ⟨rfl, rfl⟩)
        have FI' : Fm (Out (fun b => b = L ∨ b = WL) hG) L _ hI := ⟨FI.ns, fun b o q => FI.keep b o (.inl q), fun o q => q.2 (.inl rfl)⟩
        refine h_if (h_test (h_loc (v := .str (St pp.2) ty) FI sc21_sent sc21_k (h_str fun t27 => s_eq (h_truthy ?_))))
        rw [show Str.ofString "" = St [] by kernel_rfl]
        by_cases c1 : pp.2 = []
        · rw [c1, beq_self_eq_true]
          refine h_cons (h_expr (h_method "list" "list.append" PySem.F.plainAttrs_list PySem.F.slot_list_append PySem.F.type_list_append ?_) (hi := by kernel_rfl))
          refine h_loc (v := .ref WL) FI sc21_waiting sc21_k ⟨fun s e => ⟨_, by rw [e]; exact hWI, rfl⟩, fun a e => by cases e; exact ⟨_, hWI, rfl⟩, ?_⟩ (by repeat first | exact b3 | exact upd_eq | refine upd_ne (by decide) ?_)
          refine hs_cons (h_loc (v := .int i tv) FI sc21_place sc21_k (hs_nil (l_append hWI (by rw [b7.length]; omega) fun hJ n' e4 e5 => ?_)))
          refine ⟨fun r q => (nomatch q), ?_⟩
          have FJ := FI'.but e5 WLne fun o q => q.2 (.inr rfl)
          refine h_nil ⟨rfl, _, _, n', FJ, ?_, ?_, ?_, ?_, ?_, ?_, ?_, e4, ?_⟩
          · repeat first | exact b1 | exact upd_eq | refine upd_ne (by decide) ?_
          · repeat first | exact b2 | exact upd_eq | refine upd_ne (by decide) ?_
          · repeat first | exact b3 | exact upd_eq | refine upd_ne (by decide) ?_
          · repeat first | exact b4 | exact upd_eq | refine upd_ne (by decide) ?_
          · repeat first | exact b5 | exact upd_eq | refine upd_ne (by decide) ?_
          · rw [c1]; repeat first | exact upd_eq | refine upd_ne (by decide) ?_
          · repeat first | exact upd_eq | refine upd_ne (by decide) ?_
          · show IntsAre _ (if pp.2 = [] then (waits ring i).1 ++ [(i : Int)] else (waits ring i).1)
            rw [if_pos c1]
            exact b7.append (.cons _ _ .nil)
        · have : (St pp.2 == St []) = false := by
            refine beq_eq_false_iff_ne.mpr fun e => c1 ?_
            have := congrArg (fun s : Str => s.cps.toList) e
            simpa using this
          rw [this]
          refine h_nil ⟨rfl, _, _, _, FI', ?_, ?_, ?_, ?_, ?_, ?_, ?_, hWI, ?_⟩
          · repeat first | exact b1 | exact upd_eq | refine upd_ne (by decide) ?_
          · repeat first | exact b2 | exact upd_eq | refine upd_ne (by decide) ?_
          · repeat first | exact b3 | exact upd_eq | refine upd_ne (by decide) ?_
          · repeat first | exact b4 | exact upd_eq | refine upd_ne (by decide) ?_
          · repeat first | exact b5 | exact upd_eq | refine upd_ne (by decide) ?_
          · repeat first | exact upd_eq | refine upd_ne (by decide) ?_
          · repeat first | exact upd_eq | refine upd_ne (by decide) ?_
          · show IntsAre _ (if pp.2 = [] then (waits ring i).1 ++ [(i : Int)] else (waits ring i).1)
            rw [if_neg c1]
            exact b7
      · rintro f hJ ⟨rfl, m4, wv4, wn4, FJ, d1, d2, d3, d4, d5, d6, d7, d8, d9⟩
        have BJ : Base w mg mb hJ := B.grow (keep1 _ (p1.trans FJ.past))
        generalize hx0 : wpush (waits ring i) i pp = x0 at d5 d9 hwpl
        have hws : waits ring (i + 1) = popN (wneed pp).toNat x0 := by rw [← hx0, ← ed]; rfl
        have hWd : ∀ b, (fun b => b = L ∨ b = WL) b → ∃ o, hJ.get? b = some o := by
          rintro b (rfl | rfl)
          · exact FJ.there
          · exact ⟨_, d8⟩
        have hwn : (wneed pp) = ((pp.2.length : Int) - (pp.1.length : Int)) := rfl
        refine h_cons (h_for (wneed pp).toNat (fun j v => ∃ t', v = .int (j : Int) t') (fun b => b = L ∨ b = WL)
          (fun j h' => ∃ m wv wn tO, h'.Ns L m ∧ m (Str.ofString "ring") = some (.ref RL) ∧ m (Str.ofString "good") = some (.ref GL) ∧ m (Str.ofString "waiting") = some (.ref WL) ∧ m (Str.ofString "shorter") = some (.int (dif (rot ring 7)) tH) ∧
            m (Str.ofString "over") = some (.int (popN j x0).2 tO) ∧ h'.get? WL = some (lobj wv wn) ∧ IntsAre wv (popN j x0).1) hA ?_ ?_ ?_ ?_)
        · rintro j h' h'' ⟨m, wv, wn, tO, n, b1, b2, b3, b4, b5, b6, b7⟩ k
          obtain ⟨o, es, ep, eo, r⟩ := n
          exact ⟨m, wv, wn, tO, ⟨o, es, ep, k _ _ (.inl rfl) eo, r⟩, b1, b2, b3, b4, b5, k _ _ (.inr rfl) b6, b7⟩
        · refine h_callT (T := "range") (fun q => h_builtin BJ.g BJ.b sc21_range sc21_k (no_range BJ) (bt_range BJ) q) ?_
          refine hs_cons (h_binop ?_)
          refine h_callB (id := "len") (fun q => h_builtin BJ.g BJ.b sc21_len sc21_k (no_len BJ) (bt_len BJ) q) ?_
          refine hs_cons (h_loc (v := .str (St pp.2) ty) FJ sc21_sent sc21_k (hs_nil (s_len (by omega) fun t30 => ?_)) d6)
          refine h_callB (id := "len") (fun q => h_builtin BJ.g BJ.b sc21_len sc21_k (no_len BJ) (bt_len BJ) q) ?_
          refine hs_cons (h_loc (v := .str (St pp.1) tx) FJ sc21_spelled sc21_k (hs_nil (s_len (by omega) fun t31 => i_sub fun t32 => ?_)) d7)
          rw [← hwn]
          refine hs_nil (r_range (by omega) (by omega) fun r hK gK nK kr => ?_)
          refine ⟨⟨m4, wv4, wn4, tO, FJ.ns.keeps gK, d1, d2, d3, d4, d5, gK _ _ d8, d9⟩, gK.past, ?_⟩
          refine kr (fun b db => ?_) fun it h'' q => q
          obtain ⟨o, eo⟩ := hWd b db
          exact ⟨o, gK _ _ eo⟩
        · rintro j v hK hj ⟨tj, rfl⟩ ⟨m, wv, wn, tO', n, b1, b2, b3, b4, b5, b6, b7⟩ p2
          have hpl2 := popN_len j x0
          refine h_asgnN ((Fm.out (D := fun b => b = L ∨ b = WL) n (.inl rfl)).learn b6 WLne) sc21_step sc21_k fun hM FM => ?_
          have hWM := FM.keep _ _ (.inr ⟨rfl, rfl⟩)
          have FM' : Fm (Out (fun b => b = L ∨ b = WL) hK) L _ hM := ⟨FM.ns, fun b o q => FM.keep b o (.inl q), fun o q => q.2 (.inl rfl)⟩
          refine h_cons (h_if (h_test (h_loc (v := .ref WL) FM sc21_waiting sc21_k ?_ (by repeat first | exact b3 | exact upd_eq | refine upd_ne (by decide) ?_))))
          refine h_List (hs_nil (h_newList (by decide) fun el hN gN nN hel => l_eq (gN _ _ hWM) hel b7 .nil hu (h_truthy ?_)))
          have hp1 : popN (j + 1) x0 = pop1 (popN j x0) := rfl
          by_cases c2 : (popN j x0).1 = []
          · rw [decide_eq_true c2]
            refine h_cons (h_assign sc21_over sc21_k (h_binop (h_loc (v := .int (popN j x0).2 tO') (FM.grow gN) sc21_over sc21_k (h_int fun t33 => i_add fun t34 => ⟨_, _, FM.grow gN, fun hO FO => ?_⟩) (by repeat first | exact b5 | exact upd_eq | refine upd_ne (by decide) ?_))))
            have FO' : Fm (Out (fun b => b = L ∨ b = WL) hK) L _ hO := ⟨FO.ns, fun b o q => FO.keep b o (.inl q), fun o q => q.2 (.inl rfl)⟩
            refine h_nil (h_nil ⟨⟨_, wv, wn, t34, FO.ns, ?_, ?_, ?_, ?_, ?_, FO.keep _ _ (.inr ⟨rfl, rfl⟩), ?_⟩, FO'.past⟩)
            · repeat first | exact b1 | exact upd_eq | refine upd_ne (by decide) ?_
            · repeat first | exact b2 | exact upd_eq | refine upd_ne (by decide) ?_
            · repeat first | exact b3 | exact upd_eq | refine upd_ne (by decide) ?_
            · repeat first | exact b4 | exact upd_eq | refine upd_ne (by decide) ?_
            · rw [hp1, pop1, if_pos c2]; exact upd_eq
            · rw [hp1, pop1, if_pos c2]; exact b7
          · rw [decide_eq_false c2]
            obtain ⟨us, y, ny, ty', e5, e6, e7⟩ := ints_last b7 c2
            subst e5 e6
            have hlus := b7.length
            rw [List.length_append] at hlus
            have hWN := gN _ _ hWM
            refine h_cons (h_expr (h_method0 "list" "list.pop" PySem.F.plainAttrs_list PySem.F.slot_list_pop PySem.F.type_list_pop ?_) (hi := by kernel_rfl))
            refine h_loc (v := .ref WL) (FM.grow gN) sc21_waiting sc21_k ⟨fun s e => ⟨_, by rw [e]; exact hWN, rfl⟩, fun a e => by cases e; exact ⟨_, hWN, rfl⟩, ?_⟩ (by repeat first | exact b3 | exact upd_eq | refine upd_ne (by decide) ?_)
            refine l_pop hWN (by have e19 : (2 : Nat) ^ 19 = 524288 := (by decide); omega) fun hO n' e8 e9 => ?_
            refine ⟨fun r q => (nomatch q), ?_⟩
            have FO := (FM'.grow gN).but e9 WLne fun o q => q.2 (.inr rfl)
            refine h_nil (h_nil ⟨⟨_, us, n', tO', FO.ns, ?_, ?_, ?_, ?_, ?_, e8, ?_⟩, FO.past⟩)
            · repeat first | exact b1 | exact upd_eq | refine upd_ne (by decide) ?_
            · repeat first | exact b2 | exact upd_eq | refine upd_ne (by decide) ?_
            · repeat first | exact b3 | exact upd_eq | refine upd_ne (by decide) ?_
            · repeat first | exact b4 | exact upd_eq | refine upd_ne (by decide) ?_
            · rw [hp1, pop1, if_neg c2]; repeat first | exact b5 | exact upd_eq | refine upd_ne (by decide) ?_
            · rw [hp1, pop1, if_neg c2]; exact e7
        · rintro hK ⟨m, wv, wn, tO', n, b1, b2, b3, b4, b5, b6, b7⟩ p2
          rw [← hws] at b5 b7
          exact h_nil ⟨⟨m, wv, wn, tO', n, b1, b2, b3, b4, b5, b6, b7⟩, FJ.past.trans p2⟩
    · rintro hG ⟨m, wv, wn, tO, n, b1, b2, b3, b4, b5, b6, b7⟩ p1
      have hgood : goods ring 8 = (waits ring 8).1.take (max 0 (((waits ring 8).1.length : Int) - (waits ring 8).2)).toNat ∧ ((goods ring 8).length : Int) = max 0 (dif (rot ring 7)) := cycle hsteps hring
      obtain ⟨w1, w2⟩ := hgood
      have FG : Fm (AllBut L hG) L m hG := ⟨n, fun b o x => x.1, fun o x => x.2 rfl⟩
      have BG := B.grow (keep1 _ p1)
      have hGG := p1 _ _ nDG1 hGF
      have hwl := waits_len ring 8
      have hwv := b7.length
      have hgl : (goods ring 8).length ≤ 8 := by
        rw [goods, List.length_map]
        refine Nat.le_trans (List.length_filter_le _ _) ?_
        rw [List.length_range]; exact Nat.le_refl _
      have hgvl := a5.length
      refine h_cons (h_assign sc21_left sc21_k ?_)
      refine h_callB (id := "max") (fun q => h_builtin BG.g BG.b sc21_max sc21_k (no_max BG) (bt_max BG) q) ?_
      refine hs_cons (h_int fun t40 => hs_cons (h_binop ?_))
      refine h_callB (id := "len") (fun q => h_builtin BG.g BG.b sc21_len sc21_k (no_len BG) (bt_len BG) q) ?_
      refine hs_cons (h_loc (v := .ref WL) FG sc21_waiting sc21_k (hs_nil (l_len b6 (by omega) fun t41 => ?_)) b3)
      refine h_loc (v := .int (waits ring 8).2 tO) FG sc21_over sc21_k (i_sub fun t42 => hs_nil (i_max hA fun t43 hH gH => ?_)) b5
      rw [hwv]
      generalize hlf : max 0 (((waits ring 8).1.length : Int) - (waits ring 8).2) = lf at w1
      refine ⟨_, _, (FG.grow gH).all, fun hI FI => ?_⟩
      have hWI := FI.keep _ _ ⟨gH _ _ b6, (FG.grow gH).ne_seq (gH _ _ b6) rfl⟩
      have hGI := FI.keep _ _ ⟨gH _ _ hGG, (FG.grow gH).ne_seq (gH _ _ hGG) rfl⟩
      have lf0 : 0 ≤ lf := by omega
      refine h_cons (h_ret (h_and (h_cmp (h_loc (v := .ref GL) FI sc21_good sc21_k ?_ (by repeat first | exact b2 | exact upd_eq | refine upd_ne (by decide) ?_)))))
      refine h_slice (h_loc (v := .ref WL) FI sc21_waiting sc21_k (p_none (p_some (h_loc (v := .int lf t43) FI sc21_left sc21_k ?_))) (by repeat first | exact b3 | exact upd_eq | refine upd_ne (by decide) ?_))
      refine ⟨WL, wv, none, some lf, rfl, ⟨_, hWI, rfl, _, rfl⟩, by omega, .none, .int _ _, fun sl hJ gJ nJ hsl => ?_⟩
      have elf : slicePick wv.toArray none (some lf) none = (wv.take lf.toNat).toArray := by
        have := slicePick_upto' wv.toArray lf.toNat
        rwa [Int.toNat_of_nonneg lf0] at this
      rw [elf, List.toList_toArray] at hsl
      refine l_eq (gJ _ _ hGI) hsl a5 (ints_take lf.toNat b7) hu ⟨_, rfl, ?_⟩
      rw [decide_eq_true w1]
      have BJ := B.grow (fun b o e => gJ _ _ (FI.keep _ _ ⟨gH _ _ (keep1 _ p1 b o e), (RF.go b o e).2⟩))
      have FJ := FI.grow gJ
      refine h_cmp ?_
      refine h_callB (id := "len") (fun q => h_builtin BJ.g BJ.b sc21_len sc21_k (no_len BJ) (bt_len BJ) q) ?_
      refine hs_cons (h_loc (v := .ref GL) FJ sc21_good sc21_k (hs_nil (l_len (gJ _ _ hGI) (by omega) fun t44 => ?_)) (by repeat first | exact b2 | exact upd_eq | refine upd_ne (by decide) ?_))
      refine h_callB (id := "max") (fun q => h_builtin BJ.g BJ.b sc21_max sc21_k (no_max BJ) (bt_max BJ) q) ?_
      refine hs_cons (h_int fun t45 => hs_cons (h_loc (v := .int (dif (rot ring 7)) tH) FJ sc21_shorter sc21_k (hs_nil (i_max hA fun t46 hK gK => i_eq ?_)) (by repeat first | exact b4 | exact upd_eq | refine upd_ne (by decide) ?_)))
      rw [hgvl, w2, beq_self_eq_true]
      exact ⟨rfl, fun b o e => gK _ _ (gJ _ _ (FI.keep _ _ ⟨gH _ _ (keep1 _ p1 b o e), (RF.go b o e).2⟩))⟩
end
end Mine
end
/-! part Fn13 -/
section
set_option maxRecDepth 100000
set_option linter.unusedVariables false
open PySem PySem.W PyProof.Rows
namespace Mine
theorem law_goal {q : Program} {loose : List Str} {mean : ExcName → Option Value} {w : World} {A : Around} {s : Shared} {h0 : Heap} {mg mb : Str → Option Value} {L a fa : Addr} {cdv : Value} {m : Str → Option Value} {ks : List Int} {vs : List Value} {nm : Str} {body : List Stmt} {scope : Scope} {Q : Flow → Shared → Prop} {E : Value → Shared → Prop}
    (T : Top q loose mean mg mb h0) (KX : (K w.params).In h0) (hL : h0.IsList a vs.toArray) (hI : IntsAre vs ks) (hz : ¬ ((63 : Nat) : Int) < (ks.length : Int)) (F : Fr h0 L s.heap m)
    (hm : m (Str.ofString "script") = some (.ref a)) (hA : A.handled = none) (hroom : A.depth + 4 < recursionLimit) (hu : A.units + 64 < cLine) (hnm : nm = Str.ofString "law") (hb : body = bd21) (hs : scope = sc21)
    (hQ : ∀ h' tk, Grow h0 h' → Q (.ret (.bool true)) { s with heap := h', toks := tk }) : wpAny (model pw w) A (execs body (envOf nm scope L fa cdv)) Q E s := by
  subst hnm hb hs
  have hlen := hI.length
  refine (c_law fa cdv ⟨KX, T.g, T.b, T.builtins, T.nolimit⟩ hA hroom hu hL hI (by omega) ⟨F.ns, F.keep, fun o e => ?_⟩ hm).use fun fl h' tk e => ?_
  · exact absurd (Heap.lt_size e) (Nat.not_lt.mpr F.above)
  · obtain ⟨rfl, g⟩ := e; exact hQ h' tk g
theorem caller_room (env : Env) : (callerA.deeper env).depth + 4 < recursionLimit := (by decide +kernel : callerA.depth + 1 + 4 < recursionLimit)
theorem caller_units (env : Env) : (callerA.deeper env).units + 64 < cLine := (by decide +kernel : callerA.units + 3 + 64 < cLine)
end Mine
end
/-! part Hd1 -/
section
set_option maxRecDepth 100000
set_option linter.unusedVariables false
open PySem PySem.W
namespace Mine
/-- a tree at the top's own place runs to a value and a state, in at most b steps -/
structure Goes {α : Type} (tb : String → Option Builtin) (p : Program) (w : World) (n₀ : Nat) (ann : Option Value) (bd : List Stmt) (env : Env) (q : Pos) (b : Nat) (x : Sem α) (s : Shared) (a : α) (s' : Shared) : Prop where
  go : ∃ n, n ≤ b ∧ ∀ (K : α → Sem Fin) (H : Value → Sem Fin) (gd : Bool → Bool) (lv : List Value → List Value) (pos : Pos), ∃ pos', ∀ N r,
    topRun tb p w n₀ ann N s' ⟨K a, .body bd env, pos', [topFrame q]⟩ = some r → topRun tb p w n₀ ann (n + N) s ⟨x.wrap K H gd lv, .body bd env, pos, [topFrame q]⟩ = some r
section
variable {α β : Type} {tb : String → Option Builtin} {p : Program} {w : World} {n₀ : Nat} {ann : Option Value} {bd : List Stmt} {env : Env} {q : Pos} {b b' : Nat} {s s' s'' : Shared}
theorem goes_pure {a : α} : Goes tb p w n₀ ann bd env q 0 (pure a : Sem α) s a s := ⟨0, Nat.le_refl _, fun K H gd lv pos => ⟨pos, fun N r h => by rw [Nat.zero_add]; exact h⟩⟩
theorem Goes.le {x : Sem α} {a : α} (h : Goes tb p w n₀ ann bd env q b x s a s') (e : b ≤ b') : Goes tb p w n₀ ann bd env q b' x s a s' := by
  obtain ⟨n, hn, k⟩ := h.go
  exact ⟨n, Nat.le_trans hn e, k⟩
theorem goes_bind {x : Sem α} {f : α → Sem β} {a : α} {c : β} (h : Goes tb p w n₀ ann bd env q b x s a s') (h' : Goes tb p w n₀ ann bd env q b' (f a) s' c s'') : Goes tb p w n₀ ann bd env q (b + b') (x >>= f) s c s'' := by
  obtain ⟨n, hn, k⟩ := h.go
  obtain ⟨n', hn', k'⟩ := h'.go
  refine ⟨n + n', Nat.add_le_add hn hn', fun K H gd lv pos => ?_⟩
  rw [Sem.bind_eq_wrap', Sem.wrap_wrap]
  obtain ⟨pos₁, k1⟩ := k (fun a => (f a).wrap K H gd lv) (fun e => (Sem.raise e : Sem β).wrap K H gd lv) (fun g => gd (id g)) (fun l => lv (id l)) pos
  obtain ⟨pos₂, k2⟩ := k' K H gd lv pos₁
  refine ⟨pos₂, fun N r hr => ?_⟩
  rw [Nat.add_assoc]
  exact k1 _ _ (k2 N r hr)
theorem goes_keep {x : Sem α} {a : α} {vs : List Value} (h : Goes tb p w n₀ ann bd env q b x s a s') : Goes tb p w n₀ ann bd env q b (x.keep vs) s a s' := by
  obtain ⟨n, hn, k⟩ := h.go
  refine ⟨n, hn, fun K H gd lv pos => ?_⟩
  rw [Sem.keep_eq_wrap, Sem.wrap_wrap]
  exact k _ _ _ _ pos
theorem goes_holding {x : Sem α} {a : α} {vs : List Value} (h : Goes tb p w n₀ ann bd env q b x s a s') : Goes tb p w n₀ ann bd env q b (holding vs x) s a s' := by
  unfold holding
  split
  · exact h
  · exact goes_keep h
theorem goes_onRaise {x : Sem α} {a : α} {f : Value → Sem Unit} (h : Goes tb p w n₀ ann bd env q b x s a s') : Goes tb p w n₀ ann bd env q b (x.onRaise f) s a s' := by
  obtain ⟨n, hn, k⟩ := h.go
  refine ⟨n, hn, fun K H gd lv pos => ?_⟩
  rw [Sem.onRaise_eq_wrap, Sem.wrap_wrap]
  exact k _ _ _ _ pos
theorem goes_tryCatch {x : Sem α} {a : α} {f : Value → Sem α} (h : Goes tb p w n₀ ann bd env q b x s a s') : Goes tb p w n₀ ann bd env q b (x.tryCatch f) s a s' := by
  obtain ⟨n, hn, k⟩ := h.go
  refine ⟨n, hn, fun K H gd lv pos => ?_⟩
  rw [Sem.tryCatch_eq_wrap, Sem.wrap_wrap]
  exact k _ _ _ _ pos
theorem goes_eq {x y : Sem α} {a : α} (e : x = y) (h : Goes tb p w n₀ ann bd env q b y s a s') : Goes tb p w n₀ ann bd env q b x s a s' := e ▸ h
theorem goes_fresh : Goes tb p w n₀ ann bd env q 1 fresh s s.toks { s with toks := s.toks + 1 } := ⟨1, Nat.le_refl _, fun K H gd lv pos => ⟨pos, fun N r h => by
  obtain ⟨h1, h2, h3, h4, h5⟩ := s
  rw [Nat.add_comm]; exact h⟩⟩
theorem goes_at {p' : Pos} : Goes tb p w n₀ ann bd env q 1 (standAt p') s () s := ⟨1, Nat.le_refl _, fun K H gd lv pos => ⟨p', fun N r h => by
  obtain ⟨h1, h2, h3, h4, h5⟩ := s
  rw [Nat.add_comm]; exact h⟩⟩
theorem goes_rule {t : String} : Goes tb p w n₀ ann bd env q 1 (rule t) s () s := ⟨1, Nat.le_refl _, fun K H gd lv pos => ⟨pos, fun N r h => by
  obtain ⟨h1, h2, h3, h4, h5⟩ := s
  rw [Nat.add_comm]; exact h⟩⟩
theorem goes_ask : Goes tb p w n₀ ann bd env q 1 ask s ⟨p, w.params⟩ s := ⟨1, Nat.le_refl _, fun K H gd lv pos => ⟨pos, fun N r h => by
  obtain ⟨h1, h2, h3, h4, h5⟩ := s
  rw [Nat.add_comm]; exact h⟩⟩
theorem goes_alloc {o : Obj} : Goes tb p w n₀ ann bd env q 1 (alloc o) s s.heap.objs.size { s with heap := s.heap.push o } := ⟨1, Nat.le_refl _, fun K H gd lv pos => ⟨pos, fun N r h => by
  obtain ⟨h1, h2, h3, h4, h5⟩ := s
  rw [Nat.add_comm]; exact h⟩⟩
theorem top_step {N : Nat} {s s' r : Shared} {t t' : Thread} (h1 : through t = false) (h2 : stepOk n₀ ann t = true) (h3 : step (denote tb) p w s t = .go s' t') (h : topRun tb p w n₀ ann N s' t' = some r) : topRun tb p w n₀ ann (1 + N) s t = some r := by
  rw [Nat.add_comm]
  unfold topRun
  rw [h1, h2, h3]
  exact h
theorem goes_load {a : Addr} {pt : Option Value} {o : Obj} (ho : s.heap.get? a = some o) : Goes tb p w n₀ ann bd env q 1 (loadPart a pt) s o s := ⟨1, Nat.le_refl _, fun K H gd lv pos => ⟨pos, fun N r h => by
  obtain ⟨h1, h2, h3, h4, h5⟩ := s
  refine top_step rfl rfl ?_ h
  show step (denote tb) p w ⟨h1, h2, h3, h4, h5⟩ ⟨.load a pt fun x => K x, _, _, _⟩ = _
  dsimp only at ho
  simp only [step, ho]⟩⟩
theorem goes_update {a : Addr} {pt : Option Value} {o : Obj} {f : Obj → Obj} (ho : s.heap.get? a = some o) (hn : Nat.ble n₀ a = true) : Goes tb p w n₀ ann bd env q 1 (updatePart a pt f) s () { s with heap := s.heap.update a f } := ⟨1, Nat.le_refl _, fun K H gd lv pos => ⟨pos, fun N r h => by
  obtain ⟨h1, h2, h3, h4, h5⟩ := s
  refine top_step rfl ?_ ?_ h
  · show (true && (Nat.ble n₀ a || a == mainNs || a == cStatics || ann == some (.ref a))) = true
    rw [hn]; rfl
  · show step (denote tb) p w ⟨h1, h2, h3, h4, h5⟩ ⟨.update a pt f fun x => K x, _, _, _⟩ = _
    dsimp only at ho
    simp only [step, ho, Option.isSome_some, if_true]⟩⟩
end
end Mine
end
/-! part Hd2 -/
section
set_option maxRecDepth 100000
set_option linter.unusedVariables false
open PySem PySem.W
namespace Mine
theorem hash_run_f (p : Program) (n₀ : Nat) (ann : Option Value) (bd : List Stmt) (env : Env) (q : Pos) (i : Int) (t : Tok) (w : World) (h1 : Heap) (h2 : Array GenState) (h3 : Drawn) (h4 : Nat) (h5 : OsState) (K : Option Value → Sem Fin) (H : Value → Sem Fin) (gd : Bool → Bool) (lv : List Value → List Value) (pos : Pos) (N : Nat) (rf : Sem Value) :
    topRun treeTable p (w.withFollow "special-get-raises" false) n₀ ann (N + 5) ⟨h1, h2, h3, h4, h5⟩ ⟨(callSpecialIfBoundUnlessNone? (.int i t) "__hash__" rf).wrap K H gd lv, .body bd env, pos, [topFrame q]⟩ = topRun treeTable p (w.withFollow "special-get-raises" false) n₀ ann N ⟨h1, h2, h3, h4 + 1, h5⟩ ⟨K (some (.int (rawHash i) h4)), .body bd env, pos, [topFrame q]⟩ := by kernel_rfl
theorem hash_run_t (p : Program) (n₀ : Nat) (ann : Option Value) (bd : List Stmt) (env : Env) (q : Pos) (i : Int) (t : Tok) (w : World) (h1 : Heap) (h2 : Array GenState) (h3 : Drawn) (h4 : Nat) (h5 : OsState) (K : Option Value → Sem Fin) (H : Value → Sem Fin) (gd : Bool → Bool) (lv : List Value → List Value) (pos : Pos) (N : Nat) (rf : Sem Value) :
    topRun treeTable p (w.withFollow "special-get-raises" true) n₀ ann (N + 5) ⟨h1, h2, h3, h4, h5⟩ ⟨(callSpecialIfBoundUnlessNone? (.int i t) "__hash__" rf).wrap K H gd lv, .body bd env, pos, [topFrame q]⟩ = topRun treeTable p (w.withFollow "special-get-raises" true) n₀ ann N ⟨h1, h2, h3, h4 + 1, h5⟩ ⟨K (some (.int (rawHash i) h4)), .body bd env, pos, [topFrame q]⟩ := by kernel_rfl
section
variable {p : Program} {n₀ : Nat} {ann : Option Value} {bd : List Stmt} {env : Env} {q : Pos} {s s' s'' : Shared}
theorem goes_hashcall {i : Int} {t : Tok} {rf : Sem Value} (w : World) : Goes treeTable p w n₀ ann bd env q 5 (callSpecialIfBoundUnlessNone? (.int i t) "__hash__" rf) s (some (.int (rawHash i) s.toks)) { s with toks := s.toks + 1 } := by
  obtain ⟨h1, h2, h3, h4, h5⟩ := s
  refine byRow2 "special-get-raises" (P := fun w => Goes treeTable p w n₀ ann bd env q 5 (callSpecialIfBoundUnlessNone? (.int i t) "__hash__" rf) ⟨h1, h2, h3, h4, h5⟩ (some (.int (rawHash i) h4)) ⟨h1, h2, h3, h4 + 1, h5⟩) (fun w => ?_) (fun w => ?_) w
  · exact ⟨5, Nat.le_refl _, fun K H gd lv pos => ⟨pos, fun N r h => by rw [Nat.add_comm, hash_run_f]; exact h⟩⟩
  · exact ⟨5, Nat.le_refl _, fun K H gd lv pos => ⟨pos, fun N r h => by rw [Nat.add_comm, hash_run_t]; exact h⟩⟩
theorem special_hash (i : Int) (t : Tok) : specialOf (.int i t) "__hash__" = pure (some (.builtin "int.__hash__")) := by
  show (pure (Value.type "int") >>= fun ty => typeLookup ty "__hash__") = _
  exact slot_int_hash.lookup
theorem goes_hash {w : World} {i : Int} {t : Tok} : Goes treeTable p w n₀ ann bd env q 5 (pyHash (.int i t)) s (hashInt i) { s with toks := s.toks + 1 } := by
  have hr := rawHash_range i
  have hv : [Value.int i t].any Value.onHeap = false := rfl
  show Goes treeTable p w n₀ ann bd env q 5 (pyHashByItsType (.int i t)) s (hashInt i) _
  unfold pyHashByItsType
  refine Goes.le (b := 0 + (0 + (0 + (5 + 0)))) ?_ (by decide)
  refine goes_bind (a := ()) (s' := s) ?_ ?_
  · unfold cRoomFor; rw [if_neg (by rw [hv]; exact Bool.false_ne_true)]; exact goes_pure
  refine goes_bind (a := some (.builtin "int.__hash__")) (s' := s) (goes_eq (special_hash i t) goes_pure) ?_
  rw [if_neg (by decide)]
  refine goes_bind (a := some (.builtin "int.__hash__")) (s' := s) (goes_eq (special_hash i t) goes_pure) ?_
  refine goes_bind (goes_hashcall w) ?_
  show Goes _ _ _ _ _ _ _ _ _ (if (decide (-(2 : Int) ^ 63 ≤ rawHash i) && decide (rawHash i < 2 ^ 63)) = true then _ else _) _ _ _
  rw [if_pos (by rw [decide_eq_true hr.1, decide_eq_true hr.2]; rfl)]
  exact goes_pure
end
end Mine
end
/-! part Hd3 -/
section
set_option maxRecDepth 100000
set_option linter.unusedVariables false
open PySem PySem.W
namespace Mine
noncomputable abbrev dobj (es : List DictEntry) (ep : Nat) : Obj := { cls := .type "dict", data := .dict es.toArray ep }
theorem places_nil {es : Array DictEntry} {h : Int} (k : ∀ e ∈ es, e.hash ≠ h) : placesWithHash es.size (fun i => es[i]?.map (·.hash)) h = [] := by
  unfold placesWithHash
  refine List.filter_eq_nil_iff.mpr fun j hj => ?_
  have hj := List.mem_range.mp hj
  show ¬ ((Option.map (fun x => x.hash) es[j]? == some h) = true)
  rw [Array.getElem?_eq_getElem hj]
  simpa using k es[j] (Array.getElem_mem hj)
section
variable {p : Program} {w : World} {n₀ : Nat} {ann : Option Value} {bd : List Stmt} {env : Env} {q : Pos} {s s' s'' : Shared}
theorem goes_entries {d : Addr} {pt : Option Value} {es : List DictEntry} {ep : Nat} (ho : s.heap.get? d = some (dobj es ep)) : Goes treeTable p w n₀ ann bd env q 1 (dictEntries d pt) s es.toArray s := by
  unfold dictEntries
  refine (goes_bind (a := dobj es ep) (goes_load ho) ?_ : Goes treeTable p w n₀ ann bd env q (1 + 0) _ _ _ _)
  exact goes_pure
theorem goes_epoch {d : Addr} {pt : Option Value} {es : List DictEntry} {ep : Nat} (ho : s.heap.get? d = some (dobj es ep)) : Goes treeTable p w n₀ ann bd env q 1 (dictEpoch d pt) s ep s := by
  unfold dictEpoch
  refine (goes_bind (a := dobj es ep) (goes_load ho) ?_ : Goes treeTable p w n₀ ann bd env q (1 + 0) _ _ _ _)
  exact goes_pure
theorem goes_find {d : Addr} {es : List DictEntry} {ep : Nat} {k h : Int} {t : Tok} (ho : s.heap.get? d = some (dobj es ep)) (hno : ∀ e ∈ es, e.hash ≠ h) : Goes treeTable p w n₀ ann bd env q 1 (dictFind d (.int k t) h) s none s := by
  unfold dictFind
  refine goes_holding (goes_bind (goes_entries ho) ?_ : Goes treeTable p w n₀ ann bd env q (1 + 0) _ _ _ _)
  dsimp only
  rw [places_nil (by simpa using hno)]
  exact goes_pure
/-- a new entry behind the others -/
theorem goes_push {d : Addr} {pt : Option Value} {es : List DictEntry} {ep : Nat} {e : DictEntry} (ho : s.heap.get? d = some (dobj es ep)) (hn : Nat.ble n₀ d = true) (hz : es.length ≤ 100000) :
    Goes treeTable p w n₀ ann bd env q 3 (updateDictKeys d (·.push e) pt) s () { s with heap := s.heap.update d (Obj.mapDictKeys (·.push e)) } := by
  unfold updateDictKeys
  have hg : (s.heap.update d (Obj.mapDictKeys (·.push e))).get? d = some (Obj.mapDictKeys (·.push e) (dobj es ep)) := Heap.get?_update_self _ ho rfl
  have hz' : (es.toArray.push e).size ≤ sizeLine + 1 := by rw [Array.size_push, List.size_toArray, sizeLine_eq]; omega
  refine (goes_bind (a := dobj es ep) (goes_load ho) ?_ : Goes treeTable p w n₀ ann bd env q (1 + 2) _ _ _ _)
  refine (goes_bind (goes_update ho hn) ?_ : Goes treeTable p w n₀ ann bd env q (1 + 1) _ _ _ _)
  unfold lookBehind
  refine (goes_bind (a := Obj.mapDictKeys (·.push e) (dobj es ep)) (s' := { s with heap := s.heap.update d (Obj.mapDictKeys (·.push e)) }) (goes_load hg) ?_ : Goes treeTable p w n₀ ann bd env q (1 + 0) _ _ _ _)
  have hp : (Obj.mapDictKeys (·.push e) (dobj es ep)).data.pastItsLine = none := by
    show (if (es.toArray.push e).size > sizeLine + 1 then some "dict:memory" else none) = none
    rw [if_neg (by omega)]
  rw [hp]
  exact goes_pure
theorem push_dobj {es : List DictEntry} {ep : Nat} {e : DictEntry} : Obj.mapDictKeys (·.push e) (dobj es ep) = dobj (es ++ [e]) (ep + 1) := by
  simp [Obj.mapDictKeys]
/-- dictSet of a new int -/
theorem goes_set {d : Addr} {es : List DictEntry} {ep : Nat} {k : Int} {t : Tok} {v : Value} (ho : s.heap.get? d = some (dobj es ep)) (hn : Nat.ble n₀ d = true) (hz : es.length ≤ 100000) (hno : ∀ e ∈ es, e.hash ≠ hashInt k) :
    Goes treeTable p w n₀ ann bd env q 10 (dictSet d (.int k t) v) s () { s with heap := s.heap.update d (Obj.mapDictKeys (·.push ⟨hashInt k, .int k t, v⟩)), toks := s.toks + 1 } := by
  unfold dictSet
  refine goes_holding (goes_bind goes_hash ?_ : Goes treeTable p w n₀ ann bd env q (5 + 5) _ _ _ _)
  unfold dictSetHashed
  refine goes_holding (goes_bind (goes_find (s := { s with toks := s.toks + 1 }) ho hno) ?_ : Goes treeTable p w n₀ ann bd env q (1 + 4) _ _ _ _)
  refine (goes_bind goes_rule ?_ : Goes treeTable p w n₀ ann bd env q (1 + 3) _ _ _ _)
  exact goes_push (s := { s with toks := s.toks + 1 }) ho hn hz
/-- dictPut of a new int -/
theorem goes_put {d : Addr} {es : List DictEntry} {ep : Nat} {k h : Int} {t : Tok} {v : Value} (ho : s.heap.get? d = some (dobj es ep)) (hn : Nat.ble n₀ d = true) (hz : es.length ≤ 100000) (hno : ∀ e ∈ es, e.hash ≠ h) :
    Goes treeTable p w n₀ ann bd env q 4 (dictPut d h (.int k t) v) s () { s with heap := s.heap.update d (Obj.mapDictKeys (·.push ⟨h, .int k t, v⟩)) } := by
  unfold dictPut
  refine (goes_bind (goes_find ho hno) ?_ : Goes treeTable p w n₀ ann bd env q (1 + 3) _ _ _ _)
  exact goes_push ho hn hz
end
end Mine
end
/-! part Hd4 -/
section
set_option maxRecDepth 100000
set_option linter.unusedVariables false
open PySem PySem.W
namespace Mine
theorem update_push {h : Heap} {o : Obj} {f : Obj → Obj} : (h.push o).update h.objs.size f = h.push (f o) := by
  obtain ⟨objs, life⟩ := h
  simp only [Heap.update, Heap.push, Heap.mk.injEq, and_true]
  apply Array.ext_getElem?
  intro i
  rw [Array.getElem?_modify, Array.getElem?_push, Array.getElem?_push]
  by_cases q : i = objs.size
  · subst q; simp
  · simp [q, Ne.symm q]
theorem update_below {h : Heap} {o : Obj} {f : Obj → Obj} {d : Addr} (hd : d < h.objs.size) : (h.push o).update d f = (h.update d f).push o := by
  obtain ⟨objs, life⟩ := h
  simp only [Heap.update, Heap.push, Heap.mk.injEq, and_true]
  apply Array.ext_getElem?
  intro i
  rw [Array.getElem?_modify, Array.getElem?_push, Array.getElem?_push, Array.getElem?_modify, Array.size_modify]
  have hd : d < objs.size := hd
  by_cases q : i = objs.size
  · subst q
    have : d ≠ objs.size := Nat.ne_of_lt hd
    simp [this]
  · simp [q]
theorem push_get {h : Heap} {o : Obj} (ho : o.isFreed = false) : (h.push o).get? h.objs.size = some o := Heap.get?_push_size _ ho
section
variable {p : Program} {w : World} {n₀ : Nat} {ann : Option Value} {bd : List Stmt} {env : Env} {q : Pos} {s s' s'' : Shared}
/-- trees that give the pairs of a list -/
inductive Prs (p : Program) (w : World) (n₀ : Nat) (ann : Option Value) (bd : List Stmt) (env : Env) (q : Pos) : List (Int × Str) → List (Sem Value × Sem Value) → Prop
  | nil : Prs p w n₀ ann bd env q [] []
  | cons {x l k v r} : (∀ s, Goes treeTable p w n₀ ann bd env q 3 k s (.int x.1 s.toks) { s with toks := s.toks + 1 }) → (∀ s, Goes treeTable p w n₀ ann bd env q 3 v s (.str x.2 s.toks) { s with toks := s.toks + 1 }) → Prs p w n₀ ann bd env q l r → Prs p w n₀ ann bd env q (x :: l) ((k, v) :: r)
theorem Prs.length : ∀ {l r}, Prs p w n₀ ann bd env q l r → r.length = l.length
  | _, _, .nil => rfl
  | _, _, .cons _ _ r => by simp [r.length]
/-- the long road of a sub-dict, its loop -/
theorem goes_storeLong {d : Addr} (hn : Nat.ble n₀ d = true) : ∀ {l : List (Int × Str)} {r : List (Sem Value × Sem Value)}, Prs p w n₀ ann bd env q l r → ∀ (h : Heap) (g : Array GenState) (dr : Drawn) (t : Nat) (os : OsState) (es : List DictEntry) (ep : Nat), d = h.objs.size → es.length + l.length ≤ 90000 → (∀ x ∈ l, x.1 = hashInt x.1) → (∀ x ∈ l, ∀ e ∈ es, e.hash ≠ x.1) → (l.map (·.1)).Nodup →
    Goes treeTable p w n₀ ann bd env q (16 * l.length) (forIn r PUnit.unit fun (x : Sem Value × Sem Value) (_ : PUnit) => (do let kv ← x.1; let vv ← holding [kv] x.2; holding [kv, vv] (dictSet d kv vv); pure (ForInStep.yield PUnit.unit) : Sem (ForInStep PUnit)))
      ⟨h.push (dobj es ep), g, dr, t, os⟩ PUnit.unit ⟨h.push (dobj (es ++ b3Ent 3 t l) (ep + l.length)), g, dr, t + 3 * l.length, os⟩
  | [], _, .nil, h, g, dr, t, os, es, ep, _, _, _, _, _ => by
    rw [List.forIn_nil]
    show Goes _ _ _ _ _ _ _ _ 0 _ _ _ ⟨h.push (dobj (es ++ []) ep), g, dr, t, os⟩
    rw [List.append_nil]
    exact goes_pure
  | x :: l, (k, v) :: r, .cons hk hv hr, h, g, dr, t, os, es, ep, hd, hz, h1, h2, h3 => by
    subst hd
    rw [List.forIn_cons]
    have e1 : x.1 = hashInt x.1 := h1 x (by simp)
    have ih := goes_storeLong hn hr h g dr (t + 3) os (es ++ [⟨x.1, .int x.1 t, .str x.2 (t + 1)⟩]) (ep + 1) rfl (by rw [List.length_append]; simp at hz ⊢; omega) (fun y hy => h1 y (by simp [hy])) (fun y hy e he => by
      rcases List.mem_append.mp he with he | he
      · exact h2 y (by simp [hy]) e he
      · obtain rfl : e = _ := by simpa using he
        intro q
        simp only [List.map_cons, List.nodup_cons, List.mem_map, not_exists, not_and] at h3
        exact h3.1 y hy q.symm) (by simp only [List.map_cons, List.nodup_cons] at h3; exact h3.2)
    refine Goes.le (b := (3 + (3 + (10 + 0))) + 16 * l.length) ?_ (by rw [List.length_cons]; omega)
    refine goes_bind (a := ForInStep.yield PUnit.unit) (s' := ⟨h.push (dobj (es ++ [⟨x.1, .int x.1 t, .str x.2 (t + 1)⟩]) (ep + 1)), g, dr, t + 3, os⟩) ?_ ?_
    · refine goes_bind (hk _) (goes_bind (goes_holding (hv _)) ?_)
      refine goes_bind (a := ()) (s' := ⟨h.push (dobj (es ++ [⟨x.1, .int x.1 t, .str x.2 (t + 1)⟩]) (ep + 1)), g, dr, t + 3, os⟩) (goes_holding ?_) goes_pure
      have := goes_set (p := p) (w := w) (ann := ann) (bd := bd) (env := env) (q := q) (s := ⟨h.push (dobj es ep), g, dr, t + 2, os⟩) (d := h.objs.size) (k := x.1) (t := t) (v := .str x.2 (t + 1)) (push_get rfl) hn (by simp at hz; omega) (by rw [← e1]; exact h2 x (by simp))
      rw [update_push, push_dobj, ← e1] at this
      exact this
    · have e2 : b3Ent 3 t (x :: l) = ⟨x.1, .int x.1 t, .str x.2 (t + 1)⟩ :: b3Ent 3 (t + 3) l := rfl
      rw [e2, List.length_cons, show ep + (l.length + 1) = ep + 1 + l.length by omega, show t + 3 * (l.length + 1) = t + 3 + 3 * l.length by omega]
      rw [List.append_assoc] at ih
      exact ih
theorem goes_subLong {l : List (Int × Str)} {r : List (Sem Value × Sem Value)} (hr : Prs p w n₀ ann bd env q l r) (hn : Nat.ble n₀ s.heap.objs.size = true) (hl : 15 < l.length) (hz : l.length ≤ 90000) (h1 : ∀ x ∈ l, x.1 = hashInt x.1) (h3 : (l.map (·.1)).Nodup) :
    Goes treeTable p w n₀ ann bd env q (16 * l.length + 2) (subDict r) s s.heap.objs.size { s with heap := s.heap.push (dobj (b3Ent 3 s.toks l) l.length), toks := s.toks + 3 * l.length } := by
  obtain ⟨h, g, dr, t, os⟩ := s
  unfold subDict
  refine Goes.le (b := 1 + ((1 + 16 * l.length + 0) + 0)) ?_ (by omega)
  refine goes_bind goes_alloc ?_
  refine goes_bind (a := ()) (s' := ⟨h.push (dobj (b3Ent 3 t l) l.length), g, dr, t + 3 * l.length, os⟩) (goes_holding ?_) goes_pure
  rw [if_neg (by rw [hr.length]; omega)]
  have := goes_storeLong (d := h.objs.size) hn hr h g dr t os [] 0 rfl (by simpa using hz) h1 (fun _ _ e he => by cases he) h3
  rw [List.nil_append, Nat.zero_add] at this
  refine Goes.le (b := 1 + (16 * l.length + 0)) ?_ (by omega)
  refine goes_bind goes_rule ?_
  exact goes_bind this goes_pure
end
end Mine
end
/-! part Hd5 -/
section
set_option maxRecDepth 100000
set_option linter.unusedVariables false
open PySem PySem.W
namespace Mine
/-- entries whose keys are ints by their own hash -/
noncomputable def IntEnts (es : List DictEntry) : Prop := ∀ e ∈ es, ∃ k t, e.key = .int k t
theorem b3Ent_int (d : Nat) : ∀ (l : List (Int × Str)) (t : Nat), IntEnts (b3Ent d t l)
  | [], t, e, h => by cases h
  | x :: l, t, e, h => by
    rw [show b3Ent d t (x :: l) = ⟨x.1, .int x.1 t, .str x.2 (t + 1)⟩ :: b3Ent d (t + d) l from rfl] at h
    rcases List.mem_cons.mp h with rfl | h
    · exact ⟨_, _, rfl⟩
    · exact b3Ent_int d l _ e h
section
variable {p : Program} {w : World} {n₀ : Nat} {ann : Option Value} {bd : List Stmt} {env : Env} {q : Pos} {s s' s'' : Shared}
theorem goes_typeOf {a : Addr} {o : Obj} (ho : s.heap.get? a = some o) : Goes treeTable p w n₀ ann bd env q 1 (typeOf (.ref a)) s o.cls s := by
  unfold typeOf
  refine (goes_bind (goes_load ho) ?_ : Goes treeTable p w n₀ ann bd env q (1 + 0) _ _ _ _)
  exact goes_pure
theorem goes_isDict {a : Addr} {es : List DictEntry} {ep : Nat} (ho : s.heap.get? a = some (dobj es ep)) : Goes treeTable p w n₀ ann bd env q 1 (isInstance (.ref a) (.type "dict")) s true s := by
  unfold isInstance
  refine (goes_bind (goes_typeOf ho) ?_ : Goes treeTable p w n₀ ann bd env q (1 + 0) _ _ _ _)
  exact goes_eq (by show isSubtype (.type "dict") (.type "dict") = pure true; rw [isSubtype_type]; kernel_rfl) goes_pure
theorem goes_iterDict {a : Addr} {es : List DictEntry} {ep : Nat} (ho : s.heap.get? a = some (dobj es ep)) : Goes treeTable p w n₀ ann bd env q 1 (specialOf (.ref a) "__iter__") s (some (.builtin "dict.__iter__")) s := by
  unfold specialOf
  refine (goes_bind (goes_typeOf ho) ?_ : Goes treeTable p w n₀ ann bd env q (1 + 0) _ _ _ _)
  exact goes_eq PySem.F.slot_dict_iter.lookup goes_pure
theorem update_const {h : Heap} {d : Addr} {o : Obj} {f : Obj → Obj} (ho : h.get? d = some o) : h.update d f = h.update d (fun _ => f o) := by
  have e := (Heap.get?_some_iff.mp ho).1
  obtain ⟨objs, life⟩ := h
  simp only [Heap.update, Heap.mk.injEq, and_true]
  apply Array.ext_getElem?
  intro i
  rw [Array.getElem?_modify, Array.getElem?_modify]
  have e : objs[d]? = some o := e
  by_cases q : d = i
  · subst q; rw [if_pos rfl, if_pos rfl, e]; rfl
  · rw [if_neg q, if_neg q]
theorem update_twice {h : Heap} {d : Addr} {x y : Obj} : (h.update d (fun _ => x)).update d (fun _ => y) = h.update d (fun _ => y) := by
  obtain ⟨objs, life⟩ := h
  simp only [Heap.update, Heap.mk.injEq, and_true]
  apply Array.ext_getElem?
  intro i
  rw [Array.getElem?_modify, Array.getElem?_modify, Array.getElem?_modify]
  by_cases q : d = i
  · subst q; rw [if_pos rfl, if_pos rfl, if_pos rfl]; cases objs[d]? <;> rfl
  · rw [if_neg q, if_neg q, if_neg q]
theorem update_self {h : Heap} {d : Addr} {o : Obj} (ho : h.get? d = some o) : h.update d (fun _ => o) = h := by
  have e := (Heap.get?_some_iff.mp ho).1
  obtain ⟨objs, life⟩ := h
  simp only [Heap.update, Heap.mk.injEq, and_true]
  apply Array.ext_getElem?
  intro i
  have e : objs[d]? = some o := e
  rw [Array.getElem?_modify]
  by_cases q : d = i
  · subst q; rw [if_pos rfl, e]; rfl
  · rw [if_neg q]
theorem update_other {h : Heap} {d a : Addr} {o : Obj} {f : Obj → Obj} (ho : h.get? a = some o) (hne : d ≠ a) : (h.update d f).get? a = some o :=
  ((Heap.SameBut.update h d f).2 a hne.symm).trans ho
/-- the merge's loop: the entries of a sub-dict go behind the main's -/
theorem goes_mergeLoop {d a : Addr} {es : List DictEntry} {ep : Nat} (hn : Nat.ble n₀ d = true) (had : d ≠ a) (hi : IntEnts es) (hp : es.Pairwise fun x y => x.hash ≠ y.hash) : ∀ (n i : Nat) (h : Heap) (g : Array GenState) (dr : Drawn) (t : Nat) (os : OsState) (ms : List DictEntry) (mp : Nat), i + n = es.length →
    h.get? a = some (dobj es ep) → h.get? d = some (dobj ms mp) → ms.length + n ≤ 90000 → (∀ j e, i ≤ j → es[j]? = some e → ∀ e' ∈ ms, e'.hash ≠ e.hash) →
    Goes treeTable p w n₀ ann bd env q (8 * n) (forIn (List.range' i n) PUnit.unit fun (i : Nat) (_ : PUnit) => (do
        let some e := (← dictEntries a)[i]? | unsupported "dict.changed-during-merge"
        holding [e.key, e.val] do
          dictPut d e.hash e.key e.val
        if (← dictEpoch a) != ep then unsupported "dict.changed-during-merge"
        pure (ForInStep.yield PUnit.unit) : Sem (ForInStep PUnit)))
      ⟨h, g, dr, t, os⟩ PUnit.unit ⟨h.update d (fun _ => dobj (ms ++ es.drop i) (mp + n)), g, dr, t, os⟩
  | 0, i, h, g, dr, t, os, ms, mp, e, ha, hd, hz, hno => by
    rw [List.drop_of_length_le (by omega), List.append_nil, Nat.add_zero, update_self hd]
    exact goes_pure
  | n + 1, i, h, g, dr, t, os, ms, mp, e, ha, hd, hz, hno => by
    have hil : i < es.length := by omega
    have hg : es[i]? = some es[i] := List.getElem?_eq_getElem hil
    obtain ⟨k, t', hk⟩ := hi es[i] (List.getElem_mem hil)
    rw [List.range'_succ, List.forIn_cons]
    have hd' : (h.update d (fun _ => dobj (ms ++ [es[i]]) (mp + 1))).get? d = some (dobj (ms ++ [es[i]]) (mp + 1)) := Heap.get?_update_self _ hd rfl
    have ih := goes_mergeLoop hn had hi hp n (i + 1) (h.update d (fun _ => dobj (ms ++ [es[i]]) (mp + 1))) g dr t os (ms ++ [es[i]]) (mp + 1) (by omega) (update_other ha had) hd' (by rw [List.length_append]; simp; omega) (fun j e' hj he' x hx => by
      rcases List.mem_append.mp hx with hx | hx
      · exact hno j e' (by omega) he' x hx
      · obtain rfl : x = es[i] := by simpa using hx
        have hjl : j < es.length := (List.getElem?_eq_some_iff.mp he').1
        have := List.pairwise_iff_getElem.mp hp i j hil hjl (by omega)
        rw [List.getElem?_eq_getElem hjl] at he'
        rw [← Option.some.inj he']; exact this)
    rw [update_twice, List.append_assoc, show [es[i]] ++ es.drop (i + 1) = es.drop i by rw [List.drop_eq_getElem_cons hil]; rfl, show mp + 1 + n = mp + (n + 1) by omega] at ih
    refine Goes.le (b := (1 + (4 + (1 + 0))) + 8 * n) ?_ (by omega)
    refine goes_bind (a := ForInStep.yield PUnit.unit) (s' := ⟨h.update d (fun _ => dobj (ms ++ [es[i]]) (mp + 1)), g, dr, t, os⟩) ?_ ih
    refine goes_bind (goes_entries (es := es) ha) ?_
    rw [show es.toArray[i]? = some es[i] by simpa using hg]
    dsimp only
    refine goes_bind (a := ()) (s' := ⟨h.update d (fun _ => dobj (ms ++ [es[i]]) (mp + 1)), g, dr, t, os⟩) (goes_holding ?_) ?_
    · have := goes_put (p := p) (w := w) (ann := ann) (bd := bd) (env := env) (q := q) (s := ⟨h, g, dr, t, os⟩) (d := d) (k := k) (t := t') (h := es[i].hash) (v := es[i].val) hd hn (by omega) (fun x hx => hno i es[i] (Nat.le_refl _) hg x hx)
      rw [update_const hd, push_dobj] at this
      have ek : (⟨es[i].hash, .int k t', es[i].val⟩ : DictEntry) = es[i] := by rw [← hk]
      rw [ek] at this
      rw [hk]
      exact this
    · refine goes_bind (goes_epoch (es := es) (ep := ep) (update_other ha had)) ?_
      rw [if_neg (by simp)]
      exact goes_pure
end
end Mine
end
/-! part Hd6 -/
section
set_option maxRecDepth 100000
set_option linter.unusedVariables false
open PySem PySem.W
namespace Mine
section
variable {p : Program} {w : World} {n₀ : Nat} {ann : Option Value} {bd : List Stmt} {env : Env} {q : Pos} {s s' s'' : Shared}
theorem goes_merge {d a : Addr} {es ms : List DictEntry} {ep mp : Nat} (hn : Nat.ble n₀ d = true) (had : d ≠ a) (hsys : (a == sysModules) = false) (hi : IntEnts es) (hp : es.Pairwise fun x y => x.hash ≠ y.hash) (ha : s.heap.get? a = some (dobj es ep)) (hd : s.heap.get? d = some (dobj ms mp)) (hms : ms ≠ []) (hz : ms.length + es.length ≤ 90000)
    (hno : ∀ e ∈ es, ∀ e' ∈ ms, e'.hash ≠ e.hash) :
    Goes treeTable p w n₀ ann bd env q (8 * es.length + 6) (mergeMapping d (.ref a) false) s () { s with heap := s.heap.update d (fun _ => dobj (ms ++ es) (mp + es.length)) } := by
  obtain ⟨h, g, dr, t, os⟩ := s
  unfold mergeMapping
  refine Goes.le (b := 1 + (1 + (0 + (1 + (1 + (1 + (8 * es.length + 0))))))) ?_ (by omega)
  refine goes_bind (goes_isDict ha) ?_
  rw [if_pos rfl]
  refine goes_bind (goes_iterDict ha) ?_
  refine goes_bind (a := true) (goes_eq (show (pure (some (Value.builtin "dict.__iter__") == some (Value.builtin "dict.__iter__")) : Sem Bool) = pure true by simp) goes_pure) ?_
  dsimp only
  rw [hsys]
  rw [if_neg (by decide)]
  refine goes_bind (goes_entries hd) ?_
  rw [if_neg (by simpa using hms)]
  refine goes_bind (goes_entries ha) ?_
  refine goes_bind (goes_epoch ha) ?_
  have L := goes_mergeLoop (p := p) (w := w) (n₀ := n₀) (ann := ann) (bd := bd) (env := env) (q := q) hn had hi hp es.length 0 h g dr t os ms mp (by omega) ha hd hz (fun j e _ he => hno e (List.mem_of_getElem? he))
  rw [List.drop_zero] at L
  rw [List.size_toArray, List.range_eq_range']
  refine goes_bind (a := PUnit.unit) ?_ goes_pure
  exact L
end
end Mine
end
/-! part Hd7 -/
section
set_option maxRecDepth 100000
set_option linter.unusedVariables false
open PySem PySem.W
namespace Mine
noncomputable def pvals : Nat → List (Int × Str) → List (Value × Value)
  | _, [] => []
  | t, x :: l => (.int x.1 t, .str x.2 (t + 1)) :: pvals (t + 2) l
section
variable {p : Program} {w : World} {n₀ : Nat} {ann : Option Value} {bd : List Stmt} {env : Env} {q : Pos} {s s' s'' : Shared}
theorem goes_evalPairs : ∀ {l : List (Int × Str)} {r : List (Sem Value × Sem Value)}, Prs p w n₀ ann bd env q l r → ∀ (h : Heap) (g : Array GenState) (dr : Drawn) (t : Nat) (os : OsState),
    Goes treeTable p w n₀ ann bd env q (6 * l.length) (evalPairs r) ⟨h, g, dr, t, os⟩ (pvals t l) ⟨h, g, dr, t + 2 * l.length, os⟩
  | [], _, .nil, h, g, dr, t, os => goes_pure
  | x :: l, _, .cons (k := k) (v := v) (r := r) hk hv hr, h, g, dr, t, os => by
    have ih := goes_evalPairs hr h g dr (t + 2) os
    unfold evalPairs
    refine Goes.le (b := 3 + (3 + (6 * l.length + 0))) ?_ (by rw [List.length_cons]; omega)
    refine goes_bind (hk _) (goes_bind (goes_holding (hv _)) ?_)
    rw [show t + 2 * (x :: l).length = t + 2 + 2 * l.length by rw [List.length_cons]; omega]
    exact goes_bind (goes_holding ih) goes_pure
theorem goes_storeAll {d : Addr} (hn : Nat.ble n₀ d = true) : ∀ (l : List (Int × Str)) (t0 : Nat) (h : Heap) (g : Array GenState) (dr : Drawn) (t : Nat) (os : OsState) (es : List DictEntry) (ep : Nat), d = h.objs.size → es.length + l.length ≤ 90000 → (∀ x ∈ l, x.1 = hashInt x.1) → (∀ x ∈ l, ∀ e ∈ es, e.hash ≠ x.1) → (l.map (·.1)).Nodup →
    Goes treeTable p w n₀ ann bd env q (10 * l.length) (forIn (pvals t0 l) PUnit.unit fun (x : Value × Value) (_ : PUnit) => (do dictSet d x.1 x.2; pure (ForInStep.yield PUnit.unit) : Sem (ForInStep PUnit)))
      ⟨h.push (dobj es ep), g, dr, t, os⟩ PUnit.unit ⟨h.push (dobj (es ++ b3Ent 2 t0 l) (ep + l.length)), g, dr, t + l.length, os⟩
  | [], t0, h, g, dr, t, os, es, ep, _, _, _, _, _ => by
    rw [pvals, List.forIn_nil]
    show Goes _ _ _ _ _ _ _ _ 0 _ _ _ ⟨h.push (dobj (es ++ []) ep), g, dr, t, os⟩
    rw [List.append_nil]
    exact goes_pure
  | x :: l, t0, h, g, dr, t, os, es, ep, hd, hz, h1, h2, h3 => by
    subst hd
    rw [pvals, List.forIn_cons]
    have e1 : x.1 = hashInt x.1 := h1 x (by simp)
    have ih := goes_storeAll hn l (t0 + 2) h g dr (t + 1) os (es ++ [⟨x.1, .int x.1 t0, .str x.2 (t0 + 1)⟩]) (ep + 1) rfl (by rw [List.length_append]; simp at hz ⊢; omega) (fun y hy => h1 y (by simp [hy])) (fun y hy e he => by
      rcases List.mem_append.mp he with he | he
      · exact h2 y (by simp [hy]) e he
      · obtain rfl : e = _ := by simpa using he
        intro q
        simp only [List.map_cons, List.nodup_cons, List.mem_map, not_exists, not_and] at h3
        exact h3.1 y hy q.symm) (by simp only [List.map_cons, List.nodup_cons] at h3; exact h3.2)
    refine Goes.le (b := (10 + 0) + 10 * l.length) ?_ (by rw [List.length_cons]; omega)
    refine goes_bind (a := ForInStep.yield PUnit.unit) (s' := ⟨h.push (dobj (es ++ [⟨x.1, .int x.1 t0, .str x.2 (t0 + 1)⟩]) (ep + 1)), g, dr, t + 1, os⟩) ?_ ?_
    · refine goes_bind (a := ()) (s' := ⟨h.push (dobj (es ++ [⟨x.1, .int x.1 t0, .str x.2 (t0 + 1)⟩]) (ep + 1)), g, dr, t + 1, os⟩) ?_ goes_pure
      have := goes_set (p := p) (w := w) (ann := ann) (bd := bd) (env := env) (q := q) (s := ⟨h.push (dobj es ep), g, dr, t, os⟩) (d := h.objs.size) (k := x.1) (t := t0) (v := .str x.2 (t0 + 1)) (push_get rfl) hn (by simp at hz; omega) (by rw [← e1]; exact h2 x (by simp))
      rw [update_push, push_dobj, ← e1] at this
      exact this
    · have e2 : b3Ent 2 t0 (x :: l) = ⟨x.1, .int x.1 t0, .str x.2 (t0 + 1)⟩ :: b3Ent 2 (t0 + 2) l := rfl
      rw [e2, List.length_cons, show ep + (l.length + 1) = ep + 1 + l.length by omega, show t + (l.length + 1) = t + 1 + l.length by omega]
      rw [List.append_assoc] at ih
      exact ih
theorem goes_subShort {l : List (Int × Str)} {r : List (Sem Value × Sem Value)} (hr : Prs p w n₀ ann bd env q l r) (hn : Nat.ble n₀ s.heap.objs.size = true) (hl : l.length ≤ 15) (h1 : ∀ x ∈ l, x.1 = hashInt x.1) (h3 : (l.map (·.1)).Nodup) :
    Goes treeTable p w n₀ ann bd env q (16 * l.length + 2) (subDict r) s s.heap.objs.size { s with heap := s.heap.push (dobj (b3Ent 2 s.toks l) l.length), toks := s.toks + 3 * l.length } := by
  obtain ⟨h, g, dr, t, os⟩ := s
  unfold subDict
  refine Goes.le (b := 1 + ((6 * l.length + (10 * l.length + 0)) + 0)) ?_ (by omega)
  refine goes_bind goes_alloc ?_
  refine goes_bind (a := ()) (s' := ⟨h.push (dobj (b3Ent 2 t l) l.length), g, dr, t + 3 * l.length, os⟩) (goes_holding ?_) goes_pure
  rw [if_pos (by rw [hr.length]; exact hl)]
  have := goes_storeAll (d := h.objs.size) (p := p) (w := w) (ann := ann) (bd := bd) (env := env) (q := q) hn l t h g dr (t + 2 * l.length) os [] 0 rfl (by simp; omega) h1 (fun _ _ e he => by cases he) h3
  rw [List.nil_append, Nat.zero_add, show t + 2 * l.length + l.length = t + 3 * l.length by omega] at this
  refine goes_bind (goes_evalPairs hr _ g dr t os) (goes_holding ?_)
  exact goes_bind this goes_pure
end
end Mine
end
/-! part Hd8 -/
section
set_option maxRecDepth 100000
set_option linter.unusedVariables false
open PySem PySem.W
namespace Mine
theorem b3Ent_append (d : Nat) : ∀ (a b : List (Int × Str)) (t : Nat), b3Ent d t (a ++ b) = b3Ent d t a ++ b3Ent d (t + d * a.length) b
  | [], b, t => by simp; rfl
  | x :: a, b, t => by
    show ⟨x.1, .int x.1 t, .str x.2 (t + 1)⟩ :: b3Ent d (t + d) (a ++ b) = ⟨x.1, .int x.1 t, .str x.2 (t + 1)⟩ :: b3Ent d (t + d) a ++ _
    rw [b3Ent_append d a b (t + d), List.length_cons, show t + d + d * a.length = t + d * (a.length + 1) by rw [Nat.mul_add]; omega]
    rfl
theorem b3Ent_len (d : Nat) : ∀ (a : List (Int × Str)) (t : Nat), (b3Ent d t a).length = a.length
  | [], t => rfl
  | x :: a, t => by
    show (b3Ent d (t + d) a).length + 1 = _
    rw [b3Ent_len d a (t + d)]; rfl
theorem b3Ent_hash (d : Nat) : ∀ (a : List (Int × Str)) (t : Nat) (e : DictEntry), e ∈ b3Ent d t a → ∃ x ∈ a, e.hash = x.1
  | [], t, e, h => by cases h
  | x :: a, t, e, h => by
    rcases List.mem_cons.mp (show e ∈ ⟨x.1, .int x.1 t, .str x.2 (t + 1)⟩ :: b3Ent d (t + d) a from h) with rfl | h
    · exact ⟨x, by simp, rfl⟩
    · obtain ⟨y, hy, e'⟩ := b3Ent_hash d a _ e h
      exact ⟨y, by simp [hy], e'⟩
theorem b3Ent_pairwise (d : Nat) : ∀ (a : List (Int × Str)) (t : Nat), (a.map (·.1)).Nodup → (b3Ent d t a).Pairwise fun x y => x.hash ≠ y.hash
  | [], t, _ => List.Pairwise.nil
  | x :: a, t, h => by
    simp only [List.map_cons, List.nodup_cons, List.mem_map, not_exists, not_and] at h
    show (⟨x.1, .int x.1 t, .str x.2 (t + 1)⟩ :: b3Ent d (t + d) a).Pairwise _
    refine List.pairwise_cons.mpr ⟨fun e he => ?_, b3Ent_pairwise d a _ h.2⟩
    obtain ⟨y, hy, e'⟩ := b3Ent_hash d a _ e he
    rw [e']
    exact fun q => h.1 y hy q.symm
section
variable {p : Program} {w : World} {n₀ : Nat} {ann : Option Value} {bd : List Stmt} {env : Env} {q : Pos} {s s' s'' : Shared}
/-- a heap: a base, the main dict, the sub-dicts behind it -/
noncomputable def lay (h : Heap) (m : Obj) (subs : List Obj) : Heap := subs.foldl Heap.push (h.push m)
theorem lay_size (h : Heap) (m : Obj) : ∀ subs : List Obj, (lay h m subs).objs.size = h.objs.size + 1 + subs.length := by
  intro subs
  suffices ∀ (h' : Heap), (subs.foldl Heap.push h').objs.size = h'.objs.size + subs.length by rw [lay, this, Heap.size_push]
  induction subs with
  | nil => intro h'; rfl
  | cons o r ih => intro h'; rw [List.foldl_cons, ih, Heap.size_push, List.length_cons]; omega
theorem lay_snoc (h : Heap) (m : Obj) (subs : List Obj) (o : Obj) : (lay h m subs).push o = lay h m (subs ++ [o]) := by simp [lay]
theorem lay_main {h : Heap} {m : Obj} (hm : m.isFreed = false) : ∀ (subs : List Obj), (lay h m subs).get? h.objs.size = some m := by
  intro subs
  suffices ∀ (h' : Heap), h'.get? h.objs.size = some m → (subs.foldl Heap.push h').get? h.objs.size = some m from this _ (Heap.get?_push_size _ hm)
  induction subs with
  | nil => intro h' e; exact e
  | cons o r ih => intro h' e; exact ih _ (Heap.get?_push_of_some _ e)
theorem lay_update {h : Heap} {m : Obj} {f : Obj → Obj} : ∀ (subs : List Obj), (lay h m subs).update h.objs.size f = lay h (f m) subs := by
  intro subs
  suffices ∀ (h' : Heap), h.objs.size < h'.objs.size → (subs.foldl Heap.push h').update h.objs.size f = subs.foldl Heap.push (h'.update h.objs.size f) by
    rw [lay, this _ (by rw [Heap.size_push]; omega), update_push]; rfl
  induction subs with
  | nil => intro h' _; rfl
  | cons o r ih => intro h' e; rw [List.foldl_cons, List.foldl_cons, ih _ (by rw [Heap.size_push]; omega), update_below e]
end
end Mine
end
/-! part Hd9 -/
section
set_option maxRecDepth 100000
set_option linter.unusedVariables false
open PySem PySem.W
namespace Mine
section
variable {p : Program} {w : World} {n₀ : Nat} {ann : Option Value} {bd : List Stmt} {env : Env} {q : Pos} {s s' s'' : Shared}
/-- a sub-dict is made and merged into the main -/
theorem goes_flush {dd : Nat} {h : Heap} {g : Array GenState} {dr : Drawn} {t : Nat} {os : OsState} {ms : List DictEntry} {mp : Nat} {subs : List Obj} {l : List (Int × Str)} {r : List (Sem Value × Sem Value)} {f : Addr → Value → Sem Unit} (hn : Nat.ble n₀ h.objs.size = true)
    (hs : ∀ s : Shared, Nat.ble n₀ s.heap.objs.size = true → Goes treeTable p w n₀ ann bd env q (16 * l.length + 2) (subDict r) s s.heap.objs.size { s with heap := s.heap.push (dobj (b3Ent dd s.toks l) l.length), toks := s.toks + 3 * l.length })
    (hsys : sysModules < h.objs.size) (hms : ms ≠ []) (hz : ms.length + l.length ≤ 80000) (h3 : (l.map (·.1)).Nodup) (hno : ∀ x ∈ l, ∀ e ∈ ms, e.hash ≠ x.1) :
    Goes treeTable p w n₀ ann bd env q (24 * l.length + 8) (do
        let sub ← holding [.ref h.objs.size] (subDict r)
        (holding [.ref h.objs.size, .ref sub] (mergeMapping h.objs.size (.ref sub) false)).onRaise (f sub)
        pure (some h.objs.size) : Sem (Option Addr))
      ⟨lay h (dobj ms mp) subs, g, dr, t, os⟩ (some h.objs.size) ⟨lay h (dobj (ms ++ b3Ent dd t l) (mp + l.length)) (subs ++ [dobj (b3Ent dd t l) l.length]), g, dr, t + 3 * l.length, os⟩ := by
  have hsz := lay_size h (dobj ms mp) subs
  have hb : Nat.ble n₀ (lay h (dobj ms mp) subs).objs.size = true := Nat.ble_eq_true_of_le (Nat.le_trans (Nat.le_of_ble_eq_true hn) (by omega))
  refine Goes.le (b := (16 * l.length + 2) + ((8 * l.length + 6) + 0)) ?_ (by omega)
  refine goes_bind (goes_holding (hs ⟨lay h (dobj ms mp) subs, g, dr, t, os⟩ hb)) ?_
  refine goes_bind (a := ()) (goes_onRaise (goes_holding ?_)) goes_pure
  have M := goes_merge (p := p) (w := w) (n₀ := n₀) (ann := ann) (bd := bd) (env := env) (q := q) (s := ⟨(lay h (dobj ms mp) subs).push (dobj (b3Ent dd t l) l.length), g, dr, t + 3 * l.length, os⟩) (d := h.objs.size) (a := (lay h (dobj ms mp) subs).objs.size) (es := b3Ent dd t l) (ms := ms) (ep := l.length) (mp := mp)
    hn (Nat.ne_of_lt (by omega)) (beq_eq_false_iff_ne.mpr (Nat.ne_of_gt (Nat.lt_of_lt_of_le hsys (by rw [hsz]; omega)))) (b3Ent_int dd l t) (b3Ent_pairwise dd l t h3) (push_get rfl) (Heap.get?_push_of_some _ (lay_main rfl subs)) hms (by rw [b3Ent_len]; omega)
    (fun e he e' he' => by obtain ⟨x, hx, q⟩ := b3Ent_hash dd l t e he; rw [q]; exact hno x hx e' he')
  rw [b3Ent_len, lay_snoc, lay_update] at M
  dsimp only at M ⊢
  rw [lay_snoc]
  exact M
end
end Mine
end
/-! part Hd10 -/
section
set_option maxRecDepth 100000
set_option linter.unusedVariables false
open PySem PySem.W
namespace Mine
noncomputable abbrev Items := List (Sem Value × Sem Value)
noncomputable def someK (p : Sem Value × Sem Value) : Option (Sem Value) × Sem Value := (some p.1, p.2)
/-- the gathering loop, told apart -/
structure Gath (f : (Option (Sem Value) × Sem Value) → (Option Addr × Items) → Sem (ForInStep (Option Addr × Items))) (fl : Items → Option Addr → Sem (Option Addr)) : Prop where
  less : ∀ (p : Sem Value × Sem Value) (m : Option Addr) (run : Items), run.length + 1 < 17 → f (some p.1, p.2) (m, run) = pure (.yield (m, run ++ [p]))
  full : ∀ (p : Sem Value × Sem Value) (m : Option Addr) (run : Items), run.length + 1 = 17 → f (some p.1, p.2) (m, run) = (fl (run ++ [p]) m >>= fun m' => pure (.yield (m', [])))
section
variable {f : (Option (Sem Value) × Sem Value) → (Option Addr × Items) → Sem (ForInStep (Option Addr × Items))} {fl : Items → Option Addr → Sem (Option Addr)}
theorem Gath.last (G : Gath f fl) : ∀ (l run : Items) (m : Option Addr), run.length + l.length < 17 → forIn (l.map someK) (m, run) f = (pure (m, run ++ l) : Sem (Option Addr × Items))
  | [], run, m, _ => by simp
  | p :: l, run, m, h => by
    rw [List.map_cons, List.forIn_cons, someK, G.less p m run (by simp at h; omega), pure_bind]
    have := G.last l (run ++ [p]) m (by simp at h ⊢; omega)
    simpa using this
theorem Gath.chunk (G : Gath f fl) (rest : Items) : ∀ (l run : Items) (m : Option Addr), l ≠ [] → run.length + l.length = 17 → forIn ((l ++ rest).map someK) (m, run) f = (fl (run ++ l) m >>= fun m' => forIn (rest.map someK) (m', []) f : Sem (Option Addr × Items))
  | [], _, _, h, _ => absurd rfl h
  | [p], run, m, _, h => by
    rw [List.cons_append, List.map_cons, List.forIn_cons, someK, G.full p m run (by simpa using h), bind_assoc]
    simp only [pure_bind, List.nil_append]
  | p :: p' :: l, run, m, _, h => by
    rw [List.cons_append, List.map_cons, List.forIn_cons, someK, G.less p m run (by simp at h; omega), pure_bind]
    have := G.chunk rest (p' :: l) (run ++ [p]) m (by simp) (by simp at h ⊢; omega)
    rw [List.append_assoc] at this
    exact this
end
end Mine
end
/-! part Hd11 -/
section
set_option maxRecDepth 100000
set_option linter.unusedVariables false
open PySem PySem.W
namespace Mine
noncomputable def subsOf : Nat → Nat → List (Int × Str) → List Obj
  | 0, _, _ => []
  | c + 1, t, l => dobj (b3Ent 3 t (l.take 17)) 17 :: subsOf c (t + 51) (l.drop 17)
section
variable {p : Program} {w : World} {n₀ : Nat} {ann : Option Value} {bd : List Stmt} {env : Env} {q : Pos} {s s' s'' : Shared}
theorem Prs.take : ∀ {l r} (n : Nat), Prs p w n₀ ann bd env q l r → Prs p w n₀ ann bd env q (l.take n) (r.take n)
  | _, _, 0, _ => by simpa using Prs.nil
  | _, _, n + 1, .nil => by simpa using Prs.nil
  | _, _, n + 1, .cons a b r => by simpa using Prs.cons a b (r.take n)
theorem Prs.drop : ∀ {l r} (n : Nat), Prs p w n₀ ann bd env q l r → Prs p w n₀ ann bd env q (l.drop n) (r.drop n)
  | _, _, 0, x => x
  | _, _, n + 1, .nil => by simpa using Prs.nil
  | _, _, n + 1, .cons a b r => by simpa using r.drop n
variable {f : (Option (Sem Value) × Sem Value) → (Option Addr × Items) → Sem (ForInStep (Option Addr × Items))} {fl : Items → Option Addr → Sem (Option Addr)} {ff : Addr → Addr → Value → Sem Unit}
theorem goes_chunks (G : Gath f fl) (hfl : ∀ (run : Items) (d : Addr), run ≠ [] → fl run (some d) = (do
        let sub ← holding [.ref d] (subDict run)
        (holding [.ref d, .ref sub] (mergeMapping d (.ref sub) false)).onRaise (ff d sub)
        pure (some d))) {h : Heap} (hn : Nat.ble n₀ h.objs.size = true) (hsys : sysModules < h.objs.size) : ∀ (c : Nat) {l : List (Int × Str)} {r : Items}, Prs p w n₀ ann bd env q l r → ∀ (g : Array GenState) (dr : Drawn) (t : Nat) (os : OsState) (ms : List DictEntry) (mp : Nat) (subs : List Obj),
      17 * c ≤ l.length → l.length < 17 * c + 17 → ms ≠ [] → ms.length + l.length ≤ 80000 → (∀ x ∈ l, x.1 = hashInt x.1) → (l.map (·.1)).Nodup → (∀ x ∈ l, ∀ e ∈ ms, e.hash ≠ x.1) →
      Goes treeTable p w n₀ ann bd env q (416 * c) (forIn (r.map someK) (some h.objs.size, []) f) ⟨lay h (dobj ms mp) subs, g, dr, t, os⟩ (some h.objs.size, r.drop (17 * c)) ⟨lay h (dobj (ms ++ b3Ent 3 t (l.take (17 * c))) (mp + 17 * c)) (subs ++ subsOf c t l), g, dr, t + 51 * c, os⟩
  | 0, l, r, hr, g, dr, t, os, ms, mp, subs, e1, e2, hms, hz, h1, h3, hno => by
    have := G.last r [] (some h.objs.size) (by rw [hr.length]; simpa using e2)
    refine goes_eq this ?_
    rw [Nat.mul_zero, List.take_zero, List.drop_zero, List.nil_append]
    show Goes _ _ _ _ _ _ _ _ 0 _ _ _ ⟨lay h (dobj (ms ++ []) mp) (subs ++ []), g, dr, t, os⟩
    rw [List.append_nil, List.append_nil]
    exact goes_pure
  | c + 1, l, r, hr, g, dr, t, os, ms, mp, subs, e1, e2, hms, hz, h1, h3, hno => by
    have hl17 : (l.take 17).length = 17 := by rw [List.length_take]; omega
    have hr17 : (r.take 17).length = 17 := by rw [List.length_take, hr.length]; omega
    have hmem : ∀ x ∈ l.take 17, x ∈ l := fun x hx => List.mem_of_mem_take hx
    have hmemd : ∀ x ∈ l.drop 17, x ∈ l := fun x hx => List.mem_of_mem_drop hx
    have hspl : l = l.take 17 ++ l.drop 17 := (List.take_append_drop 17 l).symm
    have h3' : ((l.take 17).map (·.1) ++ (l.drop 17).map (·.1)).Nodup := by rw [← List.map_append, List.take_append_drop]; exact h3
    obtain ⟨n1, n2, n3⟩ := List.nodup_append.mp h3'
    have hch := G.chunk (r.drop 17) (r.take 17) [] (some h.objs.size) (by intro q; rw [q] at hr17; simp at hr17) (by rw [hr17]; rfl)
    rw [List.take_append_drop, List.nil_append, hfl _ _ (by intro q; rw [q] at hr17; simp at hr17)] at hch
    refine goes_eq hch ?_
    have F := goes_flush (p := p) (w := w) (n₀ := n₀) (ann := ann) (bd := bd) (env := env) (q := q) (dd := 3) (h := h) (g := g) (dr := dr) (t := t) (os := os) (ms := ms) (mp := mp) (subs := subs) (l := l.take 17) (r := r.take 17) (f := ff h.objs.size) hn
      (fun s hb => goes_subLong (hr.take 17) hb (by omega) (by omega) (fun x hx => h1 x (hmem x hx)) n1) hsys hms (by omega) n1 (fun x hx => hno x (hmem x hx))
    rw [hl17] at F
    have ih := goes_chunks G hfl hn hsys c (hr.drop 17) g dr (t + 51) os (ms ++ b3Ent 3 t (l.take 17)) (mp + 17) (subs ++ [dobj (b3Ent 3 t (l.take 17)) 17]) (by rw [List.length_drop]; omega) (by rw [List.length_drop]; omega) (by simp [hms]) (by rw [List.length_append, b3Ent_len, List.length_drop]; omega) (fun x hx => h1 x (hmemd x hx)) n2 (fun x hx e he => by
      rcases List.mem_append.mp he with he | he
      · exact hno x (hmemd x hx) e he
      · obtain ⟨y, hy, e'⟩ := b3Ent_hash 3 _ _ e he
        rw [e']
        exact n3 _ (List.mem_map_of_mem hy) _ (List.mem_map_of_mem hx))
    refine Goes.le (b := (24 * 17 + 8) + 416 * c) ?_ (by omega)
    refine goes_bind F ?_
    have ed : (r.drop 17).drop (17 * c) = r.drop (17 * (c + 1)) := by rw [List.drop_drop]; congr 1; omega
    have et : ms ++ b3Ent 3 t (l.take 17) ++ b3Ent 3 (t + 51) ((l.drop 17).take (17 * c)) = ms ++ b3Ent 3 t (l.take (17 * (c + 1))) := by
      rw [List.append_assoc, show 17 * (c + 1) = 17 + 17 * c by omega, List.take_add, b3Ent_append, hl17]
    rw [ed, et, List.append_assoc, show mp + 17 + 17 * c = mp + 17 * (c + 1) by omega, show t + 51 + 51 * c = t + 51 * (c + 1) by omega] at ih
    exact ih
end
end Mine
end
/-! part Hd12 -/
section
set_option maxRecDepth 100000
set_option linter.unusedVariables false
open PySem PySem.W
namespace Mine
noncomputable abbrev dropMerge (d sub : Addr) (x : Value) : Sem Unit := do let _ ← holding [.ref d, x] (runValue (.builtin "proto.let_go" {}))
noncomputable def flushD (run : Items) (main : Option Addr) : Sem (Option Addr) := do
  if run.isEmpty then return main
  match main with
  | none => return some (← subDict run)
  | some d =>
    let sub ← holding [.ref d] (subDict run)
    (holding [.ref d, .ref sub] (mergeMapping d (.ref sub) false)).onRaise fun x => do let _ ← holding [.ref d, x] (runValue (.builtin "proto.let_go" {}))
    return some d
theorem display_eq (r : Items) : ∃ f, Gath f flushD ∧ dictDisplay (r.map someK) = (forIn (r.map someK) ((none : Option Addr), ([] : Items)) f >>= fun st => flushD st.2 st.1 >>= fun o => match o with | some d => pure (.ref d) | none => newDict) := by
  unfold dictDisplay
  dsimp only
  refine ⟨_, ?_, rfl⟩
  constructor
  · intro p m run h
    have hne : ((run ++ [(p.1, p.2)]).length == 17) = false := by simp; omega
    simp only [hne, Bool.false_eq_true, if_false]
  · intro p m run h
    have hne : ((run ++ [(p.1, p.2)]).length == 17) = true := by simp; omega
    simp only [hne, if_true]
    rfl
end Mine
end
/-! part Hd13 -/
section
set_option maxRecDepth 100000
set_option linter.unusedVariables false
open PySem PySem.W
namespace Mine
section
variable {p : Program} {w : World} {n₀ : Nat} {ann : Option Value} {bd : List Stmt} {env : Env} {q : Pos} {s s' s'' : Shared}
theorem flushD_some {run : Items} {d : Addr} (h : run ≠ []) : flushD run (some d) = (do
        let sub ← holding [.ref d] (subDict run)
        (holding [.ref d, .ref sub] (mergeMapping d (.ref sub) false)).onRaise (dropMerge d sub)
        pure (some d)) := by
  unfold flushD
  rw [if_neg (by simpa using h)]
theorem flushD_none {run : Items} (h : run ≠ []) : flushD run none = (subDict run >>= fun d => pure (some d)) := by
  unfold flushD
  rw [if_neg (by simpa using h)]
theorem goes_display {c e : Nat} {l : List (Int × Str)} {r : Items} (hr : Prs p w n₀ ann bd env q l r) (hl : l.length = 17 + 17 * c + e) (he : 0 < e) (he' : e ≤ 15) (hz : l.length ≤ 70000) {h : Heap} {g : Array GenState} {dr : Drawn} {t : Nat} {os : OsState} (hn : Nat.ble n₀ h.objs.size = true) (hsys : sysModules < h.objs.size)
    (h1 : ∀ x ∈ l, x.1 = hashInt x.1) (h3 : (l.map (·.1)).Nodup) :
    Goes treeTable p w n₀ ann bd env q (416 * c + 1000) (dictDisplay (r.map someK)) ⟨h, g, dr, t, os⟩ (.ref h.objs.size)
      ⟨lay h (dobj (b3Ent 3 t (l.take (17 + 17 * c)) ++ b3Ent 2 (t + 51 + 51 * c) (l.drop (17 + 17 * c))) l.length) (subsOf c (t + 51) (l.drop 17) ++ [dobj (b3Ent 2 (t + 51 + 51 * c) (l.drop (17 + 17 * c))) e]), g, dr, t + 3 * l.length, os⟩ := by
  obtain ⟨f, G, eq⟩ := display_eq r
  refine goes_eq eq ?_
  have hl17 : (l.take 17).length = 17 := by rw [List.length_take]; omega
  have hr17 : (r.take 17).length = 17 := by rw [List.length_take, hr.length]; omega
  have hrne : r.take 17 ≠ [] := by intro z; rw [z] at hr17; simp at hr17
  have hld : (l.drop 17).length = 17 * c + e := by rw [List.length_drop]; omega
  have hmem : ∀ n, ∀ x ∈ l.take n, x ∈ l := fun n x hx => List.mem_of_mem_take hx
  have hmemd : ∀ n, ∀ x ∈ l.drop n, x ∈ l := fun n x hx => List.mem_of_mem_drop hx
  have spl : ∀ n, ((l.take n).map (·.1)).Nodup ∧ ((l.drop n).map (·.1)).Nodup ∧ ∀ x ∈ l.take n, ∀ y ∈ l.drop n, x.1 ≠ y.1 := fun n => by
    have : ((l.take n).map (·.1) ++ (l.drop n).map (·.1)).Nodup := by rw [← List.map_append, List.take_append_drop]; exact h3
    obtain ⟨n1, n2, n3⟩ := List.nodup_append.mp this
    exact ⟨n1, n2, fun x hx y hy => n3 _ (List.mem_map_of_mem hx) _ (List.mem_map_of_mem hy)⟩
  have hch := G.chunk (r.drop 17) (r.take 17) [] none hrne (by rw [hr17]; rfl)
  rw [List.take_append_drop, List.nil_append, flushD_none hrne] at hch
  have C := goes_chunks (p := p) (w := w) (ann := ann) (bd := bd) (env := env) (q := q) (ff := dropMerge) G (fun run d hrun => flushD_some hrun) (h := h) hn hsys c (hr.drop 17) g dr (t + 51) os (b3Ent 3 t (l.take 17)) 17 [] (by omega) (by omega) (by intro z; have := b3Ent_len 3 (l.take 17) t; rw [z, hl17] at this; simp at this) (by rw [b3Ent_len]; omega) (fun x hx => h1 x (hmemd 17 x hx)) (spl 17).2.1 (fun x hx e he => by
    obtain ⟨y, hy, e'⟩ := b3Ent_hash 3 _ _ e he
    rw [e']; exact (spl 17).2.2 y hy x hx)
  have S := goes_subLong (p := p) (w := w) (n₀ := n₀) (ann := ann) (bd := bd) (env := env) (q := q) (s := ⟨h, g, dr, t, os⟩) (hr.take 17) hn (by omega) (by omega) (fun x hx => h1 x (hmem 17 x hx)) (spl 17).1
  rw [hl17] at S
  have edr : (r.drop 17).drop (17 * c) = r.drop (17 + 17 * c) := by rw [List.drop_drop]
  have edl : (l.drop 17).drop (17 * c) = l.drop (17 + 17 * c) := by rw [List.drop_drop]
  have hle : (l.drop (17 + 17 * c)).length = e := by rw [List.length_drop]; omega
  have et : b3Ent 3 t (l.take 17) ++ b3Ent 3 (t + 51) ((l.drop 17).take (17 * c)) = b3Ent 3 t (l.take (17 + 17 * c)) := by
    rw [List.take_add, b3Ent_append, hl17]
  rw [edr, et, List.nil_append] at C
  have hlast : r.drop (17 + 17 * c) ≠ [] := by
    intro z
    have := (hr.drop (17 + 17 * c)).length
    rw [z, hle] at this; simp at this; omega
  have F := goes_flush (p := p) (w := w) (ann := ann) (bd := bd) (env := env) (q := q) (dd := 2) (h := h) (g := g) (dr := dr) (t := t + 51 + 51 * c) (os := os) (ms := b3Ent 3 t (l.take (17 + 17 * c))) (mp := 17 + 17 * c) (subs := subsOf c (t + 51) (l.drop 17)) (l := l.drop (17 + 17 * c)) (r := r.drop (17 + 17 * c)) (f := dropMerge h.objs.size) hn
    (fun s hb => goes_subShort (hr.drop (17 + 17 * c)) hb (by omega) (fun x hx => h1 x (hmemd _ x hx)) (spl _).2.1) hsys (by intro z; have := b3Ent_len 3 (l.take (17 + 17 * c)) t; rw [z, List.length_take] at this; simp at this; omega) (by rw [b3Ent_len, List.length_take]; omega) (spl _).2.1 (fun x hx e he => by
      obtain ⟨y, hy, e'⟩ := b3Ent_hash 3 _ _ e he
      rw [e']; exact (spl _).2.2 y hy x hx)
  rw [hle, show 17 + 17 * c + e = l.length by omega, show t + 51 + 51 * c + 3 * e = t + 3 * l.length by omega] at F
  refine Goes.le (b := ((16 * 17 + 2 + 0) + 416 * c) + ((24 * e + 8) + 0)) ?_ (by omega)
  refine goes_bind (a := (some h.objs.size, r.drop (17 + 17 * c))) (s' := ⟨lay h (dobj (b3Ent 3 t (l.take (17 + 17 * c))) (17 + 17 * c)) (subsOf c (t + 51) (l.drop 17)), g, dr, t + 51 + 51 * c, os⟩) ?_ (goes_bind (goes_eq (flushD_some hlast) F) goes_pure)
  refine goes_eq hch ?_
  refine goes_bind (goes_bind S goes_pure) ?_
  exact C
end
end Mine
end
/-! part Hd14 -/
section
set_option maxRecDepth 100000
set_option linter.unusedVariables false
open PySem PySem.W PyProof.Rows
namespace Mine
section
variable {tb : String → Option Builtin} {p : Program} {w : World} {n₀ : Nat} {ann : Option Value} {bd : List Stmt} {env : Env} {q : Pos} {s s' s'' : Shared}
theorem goes_point : Goes tb p w n₀ ann bd env q 1 point s () s := ⟨1, Nat.le_refl _, fun K H gd lv pos => ⟨pos, fun N r h => by
  obtain ⟨h1, h2, h3, h4, h5⟩ := s
  rw [Nat.add_comm]; exact h⟩⟩
theorem goes_updateNs {pt : Option Value} {o : Obj} {f : Obj → Obj} (ho : s.heap.get? mainNs = some o) : Goes tb p w n₀ ann bd env q 1 (updatePart mainNs pt f) s () { s with heap := s.heap.update mainNs f } := ⟨1, Nat.le_refl _, fun K H gd lv pos => ⟨pos, fun N r h => by
  obtain ⟨h1, h2, h3, h4, h5⟩ := s
  refine top_step rfl ?_ ?_ h
  · show (true && (Nat.ble n₀ mainNs || mainNs == mainNs || mainNs == cStatics || ann == some (.ref mainNs))) = true
    have : (mainNs == mainNs) = true := beq_self_eq_true _
    rw [this]; simp
  · show step (denote tb) p w ⟨h1, h2, h3, h4, h5⟩ ⟨.update mainNs pt f fun x => K x, _, _, _⟩ = _
    dsimp only at ho
    simp only [step, ho, Option.isSome_some, if_true]⟩⟩
theorem goes_nsSet {cl : Value} {di : Option Addr} {es : Array DictEntry} {ep : Nat} {sl : Array (Option Value)} {name : Str} {v : Value} (ho : s.heap.get? mainNs = some ⟨cl, di, .dict es ep, sl⟩) (hno : aRefKeyMayBeTheName name es = false) :
    Goes tb p w n₀ ann bd env q 5 (nsSet mainNs name v) s () { s with heap := s.heap.update mainNs (Obj.putName name (if name.cps.isEmpty then 0 else reduceHash (w.params.strHash name.cps)) (.str name s.toks) v), toks := s.toks + 1 } := by
  unfold nsSet strHash mkText
  refine Goes.le (b := (1 + 0) + ((1 + 0) + (1 + 1))) ?_ (by omega)
  refine goes_bind (goes_bind goes_ask goes_pure) ?_
  refine goes_bind (goes_bind goes_fresh goes_pure) ?_
  refine goes_bind (a := ⟨cl, di, .dict es ep, sl⟩) (goes_load ho) ?_
  dsimp only
  rw [hno]
  exact goes_updateNs ho
noncomputable def isKey : Option Expr → Bool
  | some (.Constant (.int _) _ _) => true
  | _ => false
noncomputable def isVal : Expr → Bool
  | .Constant (.str _) _ _ => true
  | _ => false
noncomputable def allC : List (Option Expr) → List Expr → Bool
  | [], [] => true
  | k :: ks, v :: vs => isKey k && isVal v && allC ks vs
  | _, _ => false
theorem isKey_inv {k : Option Expr} (h : isKey k = true) : ∃ i kd p, k = some (.Constant (.int i) kd p) := by
  unfold isKey at h
  split at h
  · exact ⟨_, _, _, rfl⟩
  · cases h
theorem isVal_inv {v : Expr} (h : isVal v = true) : ∃ x kd p, v = .Constant (.str x) kd p := by
  unfold isVal at h
  split at h
  · exact ⟨_, _, _, rfl⟩
  · cases h
theorem prs_of {pos : Pos} : ∀ (ks : List (Option Expr)) (vs : List Expr), allC ks vs = true → ∃ r : Items, (evalEachOpt ks env).zip ((evalEach vs env).map fun v => (do let x ← v; standAt pos; pure x : Sem Value)) = r.map someK ∧ Prs p w n₀ ann bd env q ((ks.map kInt).zip (vs.map vStr)) r := by
  intro ks
  induction ks with
  | nil =>
    intro vs h
    cases vs with
    | nil => exact ⟨[], rfl, .nil⟩
    | cons v vs => cases h
  | cons k ks ih =>
    intro vs h
    cases vs with
    | nil => cases h
    | cons v vs =>
      have h' : (isKey k && isVal v && allC ks vs) = true := h
      obtain ⟨h1, h3⟩ := Bool.and_eq_true_iff.mp h'
      obtain ⟨h1, h2⟩ := Bool.and_eq_true_iff.mp h1
      obtain ⟨r, er, hr⟩ := ih vs h3
      obtain ⟨i, kd, p1, rfl⟩ := isKey_inv h1
      obtain ⟨x, kd', p2, rfl⟩ := isVal_inv h2
      refine ⟨(mkInt i, do let x ← mkText x; standAt pos; pure x) :: r, ?_, ?_⟩
      · rw [arm_evalEachOpt_cons, arm_evalEach_cons, List.map_cons, List.zip_cons_cons, er, List.map_cons]
        rfl
      · refine Prs.cons (x := (i, x)) (fun s => ?_) (fun s => ?_) hr
        · exact Goes.le (b := 1 + 0) (goes_bind goes_fresh goes_pure) (by omega)
        · refine Goes.le (b := (1 + 0) + (1 + 0)) ?_ (by omega)
          refine goes_bind (a := .str x s.toks) (goes_bind goes_fresh goes_pure) ?_
          exact goes_bind goes_at goes_pure
/-- a display of the table, stored under a name of the top -/
theorem goes_assign {nm : Str} {np dp sp : Pos} {ks : List (Option Expr)} {vs : List Expr} (ha : allC ks vs = true) {l : List (Int × Str)} (hl0 : (ks.map kInt).zip (vs.map vStr) = l) {c e : Nat} (hl : l.length = 17 + 17 * c + e) (he : 0 < e) (he' : e ≤ 15) (hz : l.length ≤ 70000) {h : Heap} {g : Array GenState} {dr : Drawn} {t : Nat} {os : OsState} (hn : Nat.ble n₀ h.objs.size = true) (hsys : sysModules < h.objs.size)
    (h1 : ∀ x ∈ l, x.1 = hashInt x.1) (h3 : (l.map (·.1)).Nodup) (hst : ∀ v, storeName env nm v = nsSet mainNs nm v)
    {cl : Value} {di : Option Addr} {es : Array DictEntry} {ep : Nat} {sl : Array (Option Value)} (hno : aRefKeyMayBeTheName nm es = false)
    (ho : (lay h (dobj (b3Ent 3 t (l.take (17 + 17 * c)) ++ b3Ent 2 (t + 51 + 51 * c) (l.drop (17 + 17 * c))) l.length) (subsOf c (t + 51) (l.drop 17) ++ [dobj (b3Ent 2 (t + 51 + 51 * c) (l.drop (17 + 17 * c))) e])).get? mainNs = some ⟨cl, di, .dict es ep, sl⟩) :
    Goes treeTable p w n₀ ann bd env q (416 * c + 1020) (exec (.Assign [.Name nm np] (.Dict ks vs dp) sp) env) ⟨h, g, dr, t, os⟩ Flow.next
      ⟨(lay h (dobj (b3Ent 3 t (l.take (17 + 17 * c)) ++ b3Ent 2 (t + 51 + 51 * c) (l.drop (17 + 17 * c))) l.length) (subsOf c (t + 51) (l.drop 17) ++ [dobj (b3Ent 2 (t + 51 + 51 * c) (l.drop (17 + 17 * c))) e])).update mainNs
        (Obj.putName nm (if nm.cps.isEmpty then 0 else reduceHash (w.params.strHash nm.cps)) (.str nm (t + 3 * l.length)) (.ref h.objs.size)), g, dr, t + 3 * l.length + 1, os⟩ := by
  obtain ⟨r, er, hr⟩ := prs_of (p := p) (w := w) (n₀ := n₀) (ann := ann) (bd := bd) (env := env) (q := q) (pos := dp) ks vs ha
  rw [hl0] at hr
  rw [arm_exec_Assign]
  refine Goes.le (b := 1 + (0 + ((1 + (416 * c + 1000)) + (0 + ((1 + (1 + (5 + 1))) + 0))))) ?_ (by omega)
  refine goes_bind goes_at (goes_bind (a := false) (s' := ⟨h, g, dr, t, os⟩) (goes_eq (y := pure false) rfl goes_pure) ?_)
  refine goes_bind (a := .ref h.objs.size) (s' := _) (goes_eq (arm_eval_Dict ks vs dp env) (goes_bind goes_at (goes_eq (congrArg dictDisplay er) (goes_display hr hl he he' hz hn hsys h1 h3)))) ?_
  refine goes_bind (a := none) (s' := _) (goes_eq (y := pure none) rfl goes_pure) ?_
  refine goes_bind (a := ()) (s' := _) (goes_eq (y := (do standAt np; holding [.ref h.objs.size] point; storeName env nm (.ref h.objs.size); point)) rfl (goes_bind goes_at (goes_bind (goes_holding goes_point) (goes_bind (goes_eq (hst _) (goes_nsSet ho hno)) goes_point)))) goes_pure
/-- from a statement that goes to the rest of the text -/
theorem goes_top {b : Nat} {st : Stmt} {rest : List Stmt} {pos : Pos} (h : Goes tb p w n₀ ann bd env q b (exec st env) s Flow.next s') : ∃ n, n ≤ b ∧ ∃ pos', ∀ N r,
    topRun tb p w n₀ ann N s' (restOf rest env (.body bd env) pos' [topFrame q]) = some r → topRun tb p w n₀ ann (n + N) s (restOf (st :: rest) env (.body bd env) pos [topFrame q]) = some r := by
  obtain ⟨n, hn, k⟩ := h.go
  obtain ⟨pos', k⟩ := k (fun f => match f with | .next => (execs rest env).wrap doneF (leaveH env) id id | f => doneF f) (leaveH env) id id pos
  refine ⟨n, hn, pos', fun N r hr => ?_⟩
  have := k N r hr
  unfold restOf
  rw [execs_cons_wrap]
  exact this
end
end Mine
end
/-! part HT -/
section
set_option maxRecDepth 100000
set_option linter.unusedVariables false
open PySem PySem.W PyProof.Rows
namespace Mine
noncomputable def sub (k : Nat) : Obj := match Nat.blt k 37 with
  | true => dobj (b3Ent 3 (402 + 51 * k) (((b3pairs.drop 17).drop (17 * k)).take 17)) 17
  | false => dobj (b3Ent 2 2289 (b3pairs.drop 646)) 4
noncomputable def h0 (P : Params) : Obj := ⟨(.type "dict"), none, (.dict (List.toArray [⟨PyData.keyHash P (Str.ofString "__name__"), (.str (Str.ofString "__name__") 1), (.str (Str.ofString "builtins") 160)⟩, ⟨PyData.keyHash P (Str.ofString "__doc__"), (.str (Str.ofString "__doc__") 2), (.builtin "builtins.__doc__:str#opaque")⟩, ⟨PyData.keyHash P (Str.ofString "__package__"), (.str (Str.ofString "__package__") 3), (.builtin "builtins.__package__:str#opaque")⟩, ⟨PyData.keyHash P (Str.ofString "__loader__"), (.str (Str.ofString "__loader__") 4), (.builtin "builtins.__loader__:shared#opaque")⟩, ⟨PyData.keyHash P (Str.ofString "__spec__"), (.str (Str.ofString "__spec__") 5), (.builtin "builtins.__spec__#opaque")⟩, ⟨PyData.keyHash P (Str.ofString "__build_class__"), (.str (Str.ofString "__build_class__") 6), (.builtin "__build_class__")⟩, ⟨PyData.keyHash P (Str.ofString "__import__"), (.str (Str.ofString "__import__") 7), (.builtin "__import__")⟩, ⟨PyData.keyHash P (Str.ofString "abs"), (.str (Str.ofString "abs") 8), (.builtin "abs")⟩, ⟨PyData.keyHash P (Str.ofString "all"), (.str (Str.ofString "all") 9), (.builtin "all")⟩, ⟨PyData.keyHash P (Str.ofString "any"), (.str (Str.ofString "any") 10), (.builtin "any")⟩, ⟨PyData.keyHash P (Str.ofString "ascii"), (.str (Str.ofString "ascii") 11), (.builtin "ascii")⟩, ⟨PyData.keyHash P (Str.ofString "bin"), (.str (Str.ofString "bin") 12), (.builtin "bin")⟩, ⟨PyData.keyHash P (Str.ofString "breakpoint"), (.str (Str.ofString "breakpoint") 13), (.builtin "breakpoint")⟩, ⟨PyData.keyHash P (Str.ofString "callable"), (.str (Str.ofString "callable") 14), (.builtin "callable")⟩, ⟨PyData.keyHash P (Str.ofString "chr"), (.str (Str.ofString "chr") 15), (.builtin "chr")⟩, ⟨PyData.keyHash P (Str.ofString "compile"), (.str (Str.ofString "compile") 16), (.builtin "compile")⟩, ⟨PyData.keyHash P (Str.ofString "delattr"), (.str (Str.ofString "delattr") 17), (.builtin "delattr")⟩, ⟨PyData.keyHash P (Str.ofString "dir"), (.str (Str.ofString "dir") 18), (.builtin "dir")⟩, ⟨PyData.keyHash P (Str.ofString "divmod"), (.str (Str.ofString "divmod") 19), (.builtin "divmod")⟩, ⟨PyData.keyHash P (Str.ofString "eval"), (.str (Str.ofString "eval") 20), (.builtin "eval")⟩, ⟨PyData.keyHash P (Str.ofString "exec"), (.str (Str.ofString "exec") 21), (.builtin "exec")⟩, ⟨PyData.keyHash P (Str.ofString "format"), (.str (Str.ofString "format") 22), (.builtin "format")⟩, ⟨PyData.keyHash P (Str.ofString "getattr"), (.str (Str.ofString "getattr") 23), (.builtin "getattr")⟩, ⟨PyData.keyHash P (Str.ofString "globals"), (.str (Str.ofString "globals") 24), (.builtin "globals")⟩, ⟨PyData.keyHash P (Str.ofString "hasattr"), (.str (Str.ofString "hasattr") 25), (.builtin "hasattr")⟩, ⟨PyData.keyHash P (Str.ofString "hash"), (.str (Str.ofString "hash") 26), (.builtin "hash")⟩, ⟨PyData.keyHash P (Str.ofString "hex"), (.str (Str.ofString "hex") 27), (.builtin "hex")⟩, ⟨PyData.keyHash P (Str.ofString "id"), (.str (Str.ofString "id") 28), (.builtin "id")⟩, ⟨PyData.keyHash P (Str.ofString "input"), (.str (Str.ofString "input") 29), (.builtin "input")⟩, ⟨PyData.keyHash P (Str.ofString "isinstance"), (.str (Str.ofString "isinstance") 30), (.builtin "isinstance")⟩, ⟨PyData.keyHash P (Str.ofString "issubclass"), (.str (Str.ofString "issubclass") 31), (.builtin "issubclass")⟩, ⟨PyData.keyHash P (Str.ofString "iter"), (.str (Str.ofString "iter") 32), (.builtin "iter")⟩, ⟨PyData.keyHash P (Str.ofString "aiter"), (.str (Str.ofString "aiter") 33), (.builtin "aiter")⟩, ⟨PyData.keyHash P (Str.ofString "len"), (.str (Str.ofString "len") 34), (.builtin "len")⟩, ⟨PyData.keyHash P (Str.ofString "locals"), (.str (Str.ofString "locals") 35), (.builtin "locals")⟩, ⟨PyData.keyHash P (Str.ofString "max"), (.str (Str.ofString "max") 36), (.builtin "max")⟩, ⟨PyData.keyHash P (Str.ofString "min"), (.str (Str.ofString "min") 37), (.builtin "min")⟩, ⟨PyData.keyHash P (Str.ofString "next"), (.str (Str.ofString "next") 38), (.builtin "next")⟩, ⟨PyData.keyHash P (Str.ofString "anext"), (.str (Str.ofString "anext") 39), (.builtin "anext")⟩, ⟨PyData.keyHash P (Str.ofString "oct"), (.str (Str.ofString "oct") 40), (.builtin "oct")⟩, ⟨PyData.keyHash P (Str.ofString "ord"), (.str (Str.ofString "ord") 41), (.builtin "ord")⟩, ⟨PyData.keyHash P (Str.ofString "pow"), (.str (Str.ofString "pow") 42), (.builtin "pow")⟩, ⟨PyData.keyHash P (Str.ofString "print"), (.str (Str.ofString "print") 43), (.builtin "print")⟩, ⟨PyData.keyHash P (Str.ofString "repr"), (.str (Str.ofString "repr") 44), (.builtin "repr")⟩, ⟨PyData.keyHash P (Str.ofString "round"), (.str (Str.ofString "round") 45), (.builtin "round")⟩, ⟨PyData.keyHash P (Str.ofString "setattr"), (.str (Str.ofString "setattr") 46), (.builtin "setattr")⟩, ⟨PyData.keyHash P (Str.ofString "sorted"), (.str (Str.ofString "sorted") 47), (.builtin "sorted")⟩, ⟨PyData.keyHash P (Str.ofString "sum"), (.str (Str.ofString "sum") 48), (.builtin "sum")⟩, ⟨PyData.keyHash P (Str.ofString "vars"), (.str (Str.ofString "vars") 49), (.builtin "vars")⟩, ⟨PyData.keyHash P (Str.ofString "None"), (.str (Str.ofString "None") 50), .none⟩, ⟨PyData.keyHash P (Str.ofString "Ellipsis"), (.str (Str.ofString "Ellipsis") 51), .ellipsis⟩, ⟨PyData.keyHash P (Str.ofString "NotImplemented"), (.str (Str.ofString "NotImplemented") 52), .notImplemented⟩, ⟨PyData.keyHash P (Str.ofString "False"), (.str (Str.ofString "False") 53), (.bool false)⟩, ⟨PyData.keyHash P (Str.ofString "True"), (.str (Str.ofString "True") 54), (.bool true)⟩, ⟨PyData.keyHash P (Str.ofString "bool"), (.str (Str.ofString "bool") 55), (.type "bool")⟩, ⟨PyData.keyHash P (Str.ofString "memoryview"), (.str (Str.ofString "memoryview") 56), (.type "memoryview")⟩, ⟨PyData.keyHash P (Str.ofString "bytearray"), (.str (Str.ofString "bytearray") 57), (.type "bytearray")⟩, ⟨PyData.keyHash P (Str.ofString "bytes"), (.str (Str.ofString "bytes") 58), (.type "bytes")⟩, ⟨PyData.keyHash P (Str.ofString "classmethod"), (.str (Str.ofString "classmethod") 59), (.type "classmethod")⟩, ⟨PyData.keyHash P (Str.ofString "complex"), (.str (Str.ofString "complex") 60), (.type "complex")⟩, ⟨PyData.keyHash P (Str.ofString "dict"), (.str (Str.ofString "dict") 61), (.type "dict")⟩, ⟨PyData.keyHash P (Str.ofString "enumerate"), (.str (Str.ofString "enumerate") 62), (.type "enumerate")⟩, ⟨PyData.keyHash P (Str.ofString "filter"), (.str (Str.ofString "filter") 63), (.type "filter")⟩, ⟨PyData.keyHash P (Str.ofString "float"), (.str (Str.ofString "float") 64), (.type "float")⟩, ⟨PyData.keyHash P (Str.ofString "frozenset"), (.str (Str.ofString "frozenset") 65), (.type "frozenset")⟩, ⟨PyData.keyHash P (Str.ofString "property"), (.str (Str.ofString "property") 66), (.type "property")⟩, ⟨PyData.keyHash P (Str.ofString "int"), (.str (Str.ofString "int") 67), (.type "int")⟩, ⟨PyData.keyHash P (Str.ofString "list"), (.str (Str.ofString "list") 68), (.type "list")⟩, ⟨PyData.keyHash P (Str.ofString "map"), (.str (Str.ofString "map") 69), (.type "map")⟩, ⟨PyData.keyHash P (Str.ofString "object"), (.str (Str.ofString "object") 70), (.type "object")⟩, ⟨PyData.keyHash P (Str.ofString "range"), (.str (Str.ofString "range") 71), (.type "range")⟩, ⟨PyData.keyHash P (Str.ofString "reversed"), (.str (Str.ofString "reversed") 72), (.type "reversed")⟩, ⟨PyData.keyHash P (Str.ofString "set"), (.str (Str.ofString "set") 73), (.type "set")⟩, ⟨PyData.keyHash P (Str.ofString "slice"), (.str (Str.ofString "slice") 74), (.type "slice")⟩, ⟨PyData.keyHash P (Str.ofString "staticmethod"), (.str (Str.ofString "staticmethod") 75), (.type "staticmethod")⟩, ⟨PyData.keyHash P (Str.ofString "str"), (.str (Str.ofString "str") 76), (.type "str")⟩, ⟨PyData.keyHash P (Str.ofString "super"), (.str (Str.ofString "super") 77), (.type "super")⟩, ⟨PyData.keyHash P (Str.ofString "tuple"), (.str (Str.ofString "tuple") 78), (.type "tuple")⟩, ⟨PyData.keyHash P (Str.ofString "type"), (.str (Str.ofString "type") 79), (.type "type")⟩, ⟨PyData.keyHash P (Str.ofString "zip"), (.str (Str.ofString "zip") 80), (.type "zip")⟩, ⟨PyData.keyHash P (Str.ofString "__debug__"), (.str (Str.ofString "__debug__") 81), (.bool true)⟩, ⟨PyData.keyHash P (Str.ofString "BaseException"), (.str (Str.ofString "BaseException") 82), (.type "BaseException")⟩, ⟨PyData.keyHash P (Str.ofString "BaseExceptionGroup"), (.str (Str.ofString "BaseExceptionGroup") 83), (.type "BaseExceptionGroup")⟩, ⟨PyData.keyHash P (Str.ofString "Exception"), (.str (Str.ofString "Exception") 84), (.type "Exception")⟩, ⟨PyData.keyHash P (Str.ofString "GeneratorExit"), (.str (Str.ofString "GeneratorExit") 85), (.type "GeneratorExit")⟩, ⟨PyData.keyHash P (Str.ofString "KeyboardInterrupt"), (.str (Str.ofString "KeyboardInterrupt") 86), (.type "KeyboardInterrupt")⟩, ⟨PyData.keyHash P (Str.ofString "SystemExit"), (.str (Str.ofString "SystemExit") 87), (.type "SystemExit")⟩, ⟨PyData.keyHash P (Str.ofString "ArithmeticError"), (.str (Str.ofString "ArithmeticError") 88), (.type "ArithmeticError")⟩, ⟨PyData.keyHash P (Str.ofString "AssertionError"), (.str (Str.ofString "AssertionError") 89), (.type "AssertionError")⟩, ⟨PyData.keyHash P (Str.ofString "AttributeError"), (.str (Str.ofString "AttributeError") 90), (.type "AttributeError")⟩, ⟨PyData.keyHash P (Str.ofString "BufferError"), (.str (Str.ofString "BufferError") 91), (.type "BufferError")⟩, ⟨PyData.keyHash P (Str.ofString "EOFError"), (.str (Str.ofString "EOFError") 92), (.type "EOFError")⟩, ⟨PyData.keyHash P (Str.ofString "ImportError"), (.str (Str.ofString "ImportError") 93), (.type "ImportError")⟩, ⟨PyData.keyHash P (Str.ofString "LookupError"), (.str (Str.ofString "LookupError") 94), (.type "LookupError")⟩, ⟨PyData.keyHash P (Str.ofString "MemoryError"), (.str (Str.ofString "MemoryError") 95), (.type "MemoryError")⟩, ⟨PyData.keyHash P (Str.ofString "NameError"), (.str (Str.ofString "NameError") 96), (.type "NameError")⟩, ⟨PyData.keyHash P (Str.ofString "OSError"), (.str (Str.ofString "OSError") 97), (.type "OSError")⟩, ⟨PyData.keyHash P (Str.ofString "ReferenceError"), (.str (Str.ofString "ReferenceError") 98), (.type "ReferenceError")⟩, ⟨PyData.keyHash P (Str.ofString "RuntimeError"), (.str (Str.ofString "RuntimeError") 99), (.type "RuntimeError")⟩, ⟨PyData.keyHash P (Str.ofString "StopAsyncIteration"), (.str (Str.ofString "StopAsyncIteration") 100), (.type "StopAsyncIteration")⟩, ⟨PyData.keyHash P (Str.ofString "StopIteration"), (.str (Str.ofString "StopIteration") 101), (.type "StopIteration")⟩, ⟨PyData.keyHash P (Str.ofString "SyntaxError"), (.str (Str.ofString "SyntaxError") 102), (.type "SyntaxError")⟩, ⟨PyData.keyHash P (Str.ofString "SystemError"), (.str (Str.ofString "SystemError") 103), (.type "SystemError")⟩, ⟨PyData.keyHash P (Str.ofString "TypeError"), (.str (Str.ofString "TypeError") 104), (.type "TypeError")⟩, ⟨PyData.keyHash P (Str.ofString "ValueError"), (.str (Str.ofString "ValueError") 105), (.type "ValueError")⟩, ⟨PyData.keyHash P (Str.ofString "Warning"), (.str (Str.ofString "Warning") 106), (.type "Warning")⟩, ⟨PyData.keyHash P (Str.ofString "FloatingPointError"), (.str (Str.ofString "FloatingPointError") 107), (.type "FloatingPointError")⟩, ⟨PyData.keyHash P (Str.ofString "OverflowError"), (.str (Str.ofString "OverflowError") 108), (.type "OverflowError")⟩, ⟨PyData.keyHash P (Str.ofString "ZeroDivisionError"), (.str (Str.ofString "ZeroDivisionError") 109), (.type "ZeroDivisionError")⟩, ⟨PyData.keyHash P (Str.ofString "BytesWarning"), (.str (Str.ofString "BytesWarning") 110), (.type "BytesWarning")⟩, ⟨PyData.keyHash P (Str.ofString "DeprecationWarning"), (.str (Str.ofString "DeprecationWarning") 111), (.type "DeprecationWarning")⟩, ⟨PyData.keyHash P (Str.ofString "EncodingWarning"), (.str (Str.ofString "EncodingWarning") 112), (.type "EncodingWarning")⟩, ⟨PyData.keyHash P (Str.ofString "FutureWarning"), (.str (Str.ofString "FutureWarning") 113), (.type "FutureWarning")⟩, ⟨PyData.keyHash P (Str.ofString "ImportWarning"), (.str (Str.ofString "ImportWarning") 114), (.type "ImportWarning")⟩, ⟨PyData.keyHash P (Str.ofString "PendingDeprecationWarning"), (.str (Str.ofString "PendingDeprecationWarning") 115), (.type "PendingDeprecationWarning")⟩, ⟨PyData.keyHash P (Str.ofString "ResourceWarning"), (.str (Str.ofString "ResourceWarning") 116), (.type "ResourceWarning")⟩, ⟨PyData.keyHash P (Str.ofString "RuntimeWarning"), (.str (Str.ofString "RuntimeWarning") 117), (.type "RuntimeWarning")⟩, ⟨PyData.keyHash P (Str.ofString "SyntaxWarning"), (.str (Str.ofString "SyntaxWarning") 118), (.type "SyntaxWarning")⟩, ⟨PyData.keyHash P (Str.ofString "UnicodeWarning"), (.str (Str.ofString "UnicodeWarning") 119), (.type "UnicodeWarning")⟩, ⟨PyData.keyHash P (Str.ofString "UserWarning"), (.str (Str.ofString "UserWarning") 120), (.type "UserWarning")⟩, ⟨PyData.keyHash P (Str.ofString "BlockingIOError"), (.str (Str.ofString "BlockingIOError") 121), (.type "BlockingIOError")⟩, ⟨PyData.keyHash P (Str.ofString "ChildProcessError"), (.str (Str.ofString "ChildProcessError") 122), (.type "ChildProcessError")⟩, ⟨PyData.keyHash P (Str.ofString "ConnectionError"), (.str (Str.ofString "ConnectionError") 123), (.type "ConnectionError")⟩, ⟨PyData.keyHash P (Str.ofString "FileExistsError"), (.str (Str.ofString "FileExistsError") 124), (.type "FileExistsError")⟩, ⟨PyData.keyHash P (Str.ofString "FileNotFoundError"), (.str (Str.ofString "FileNotFoundError") 125), (.type "FileNotFoundError")⟩, ⟨PyData.keyHash P (Str.ofString "InterruptedError"), (.str (Str.ofString "InterruptedError") 126), (.type "InterruptedError")⟩, ⟨PyData.keyHash P (Str.ofString "IsADirectoryError"), (.str (Str.ofString "IsADirectoryError") 127), (.type "IsADirectoryError")⟩, ⟨PyData.keyHash P (Str.ofString "NotADirectoryError"), (.str (Str.ofString "NotADirectoryError") 128), (.type "NotADirectoryError")⟩, ⟨PyData.keyHash P (Str.ofString "PermissionError"), (.str (Str.ofString "PermissionError") 129), (.type "PermissionError")⟩, ⟨PyData.keyHash P (Str.ofString "ProcessLookupError"), (.str (Str.ofString "ProcessLookupError") 130), (.type "ProcessLookupError")⟩, ⟨PyData.keyHash P (Str.ofString "TimeoutError"), (.str (Str.ofString "TimeoutError") 131), (.type "TimeoutError")⟩, ⟨PyData.keyHash P (Str.ofString "IndentationError"), (.str (Str.ofString "IndentationError") 132), (.type "IndentationError")⟩, ⟨PyData.keyHash P (Str.ofString "_IncompleteInputError"), (.str (Str.ofString "_IncompleteInputError") 133), (.type "_IncompleteInputError")⟩, ⟨PyData.keyHash P (Str.ofString "IndexError"), (.str (Str.ofString "IndexError") 134), (.type "IndexError")⟩, ⟨PyData.keyHash P (Str.ofString "KeyError"), (.str (Str.ofString "KeyError") 135), (.type "KeyError")⟩, ⟨PyData.keyHash P (Str.ofString "ModuleNotFoundError"), (.str (Str.ofString "ModuleNotFoundError") 136), (.type "ModuleNotFoundError")⟩, ⟨PyData.keyHash P (Str.ofString "NotImplementedError"), (.str (Str.ofString "NotImplementedError") 137), (.type "NotImplementedError")⟩, ⟨PyData.keyHash P (Str.ofString "PythonFinalizationError"), (.str (Str.ofString "PythonFinalizationError") 138), (.type "PythonFinalizationError")⟩, ⟨PyData.keyHash P (Str.ofString "RecursionError"), (.str (Str.ofString "RecursionError") 139), (.type "RecursionError")⟩, ⟨PyData.keyHash P (Str.ofString "UnboundLocalError"), (.str (Str.ofString "UnboundLocalError") 140), (.type "UnboundLocalError")⟩, ⟨PyData.keyHash P (Str.ofString "UnicodeError"), (.str (Str.ofString "UnicodeError") 141), (.type "UnicodeError")⟩, ⟨PyData.keyHash P (Str.ofString "BrokenPipeError"), (.str (Str.ofString "BrokenPipeError") 142), (.type "BrokenPipeError")⟩, ⟨PyData.keyHash P (Str.ofString "ConnectionAbortedError"), (.str (Str.ofString "ConnectionAbortedError") 143), (.type "ConnectionAbortedError")⟩, ⟨PyData.keyHash P (Str.ofString "ConnectionRefusedError"), (.str (Str.ofString "ConnectionRefusedError") 144), (.type "ConnectionRefusedError")⟩, ⟨PyData.keyHash P (Str.ofString "ConnectionResetError"), (.str (Str.ofString "ConnectionResetError") 145), (.type "ConnectionResetError")⟩, ⟨PyData.keyHash P (Str.ofString "TabError"), (.str (Str.ofString "TabError") 146), (.type "TabError")⟩, ⟨PyData.keyHash P (Str.ofString "UnicodeDecodeError"), (.str (Str.ofString "UnicodeDecodeError") 147), (.type "UnicodeDecodeError")⟩, ⟨PyData.keyHash P (Str.ofString "UnicodeEncodeError"), (.str (Str.ofString "UnicodeEncodeError") 148), (.type "UnicodeEncodeError")⟩, ⟨PyData.keyHash P (Str.ofString "UnicodeTranslateError"), (.str (Str.ofString "UnicodeTranslateError") 149), (.type "UnicodeTranslateError")⟩, ⟨PyData.keyHash P (Str.ofString "ExceptionGroup"), (.str (Str.ofString "ExceptionGroup") 150), (.type "ExceptionGroup")⟩, ⟨PyData.keyHash P (Str.ofString "EnvironmentError"), (.str (Str.ofString "EnvironmentError") 151), (.type "OSError")⟩, ⟨PyData.keyHash P (Str.ofString "IOError"), (.str (Str.ofString "IOError") 152), (.type "OSError")⟩, ⟨PyData.keyHash P (Str.ofString "open"), (.str (Str.ofString "open") 153), (.builtin "open")⟩, ⟨PyData.keyHash P (Str.ofString "quit"), (.str (Str.ofString "quit") 154), (.builtin "builtins.quit#opaque")⟩, ⟨PyData.keyHash P (Str.ofString "exit"), (.str (Str.ofString "exit") 155), (.builtin "builtins.exit#opaque")⟩, ⟨PyData.keyHash P (Str.ofString "copyright"), (.str (Str.ofString "copyright") 156), (.builtin "builtins.copyright#opaque")⟩, ⟨PyData.keyHash P (Str.ofString "credits"), (.str (Str.ofString "credits") 157), (.builtin "builtins.credits#opaque")⟩, ⟨PyData.keyHash P (Str.ofString "license"), (.str (Str.ofString "license") 158), (.builtin "builtins.license#opaque")⟩, ⟨PyData.keyHash P (Str.ofString "help"), (.str (Str.ofString "help") 159), (.builtin "builtins.help#opaque")⟩]) 159), List.toArray []⟩
noncomputable def h1 (P : Params) : Obj := ⟨(.type "dict"), none, (.dict (List.toArray [⟨PyData.keyHash P (Str.ofString "builtins"), (.str (Str.ofString "builtins") 162), (.ref 4)⟩, ⟨PyData.keyHash P (Str.ofString "__main__"), (.str (Str.ofString "__main__") 163), (.ref 5)⟩, ⟨PyData.keyHash P (Str.ofString "_sre"), (.str (Str.ofString "_sre") 244), (.ref 12)⟩]) 3), List.toArray []⟩
noncomputable def h4 (P : Params) : Obj := ⟨(.type "module"), (some 0), .plain, List.toArray []⟩
noncomputable def h5 (P : Params) : Obj := ⟨(.type "module"), (some 3), .plain, List.toArray []⟩
noncomputable def h7 (P : Params) : Obj := ⟨(.type "tuple"), none, (.seq (List.toArray []) 0), List.toArray []⟩
noncomputable def h8 (P : Params) : Obj := ⟨.none, none, (.fields (List.toArray [])), List.toArray []⟩
noncomputable def h9 (P : Params) : Obj := ⟨(.type "code"), none, (.fields (List.toArray [(.str (Str.ofString "<module>") 176), (.str (Str.ofString "<module>") 177), (.str (Str.ofString "/claim/cut.py") 178), (.int 1 0), (.int 0 0), (.int 0 0), (.int 0 0), (.int 0 0), (.ref 7), (.bool false), (.int 175 0), (.ref 8), .none, .none, .none, .none, (.int 179 0), (.int 1 0), (.str (Str.ofString "/claim/cut.py") 180)])), List.toArray []⟩
noncomputable def h10 (P : Params) : Obj := ⟨(.type "frame"), none, .plain, List.toArray [(some (.ref 9)), (some (.ref 3)), (some (.ref 3)), none, (some (.str (Str.ofString "__main__") 164)), none, (some (.ref 0))]⟩
noncomputable def h13 (P : Params) : Obj := ⟨(.type "dict"), none, (.dict (List.toArray [⟨PyData.keyHash P (Str.ofString "__module__"), (.str (Str.ofString "__module__") 189), (.str (Str.ofString "_frozen_importlib") 186)⟩, ⟨PyData.keyHash P (Str.ofString "__firstlineno__"), (.str (Str.ofString "__firstlineno__") 190), (.int 971 187)⟩, ⟨PyData.keyHash P (Str.ofString "__doc__"), (.str (Str.ofString "__doc__") 191), (.builtin "_frozen_importlib.BuiltinImporter.__doc__:str#opaque")⟩, ⟨PyData.keyHash P (Str.ofString "_ORIGIN"), (.str (Str.ofString "_ORIGIN") 192), (.str (Str.ofString "built-in") 188)⟩, ⟨PyData.keyHash P (Str.ofString "find_spec"), (.str (Str.ofString "find_spec") 193), (.builtin "_frozen_importlib.BuiltinImporter.find_spec#opaque")⟩, ⟨PyData.keyHash P (Str.ofString "create_module"), (.str (Str.ofString "create_module") 194), (.builtin "_frozen_importlib.BuiltinImporter.create_module#opaque")⟩, ⟨PyData.keyHash P (Str.ofString "exec_module"), (.str (Str.ofString "exec_module") 195), (.builtin "_frozen_importlib.BuiltinImporter.exec_module#opaque")⟩, ⟨PyData.keyHash P (Str.ofString "get_code"), (.str (Str.ofString "get_code") 196), (.builtin "_frozen_importlib.BuiltinImporter.get_code#opaque")⟩, ⟨PyData.keyHash P (Str.ofString "get_source"), (.str (Str.ofString "get_source") 197), (.builtin "_frozen_importlib.BuiltinImporter.get_source#opaque")⟩, ⟨PyData.keyHash P (Str.ofString "is_package"), (.str (Str.ofString "is_package") 198), (.builtin "_frozen_importlib.BuiltinImporter.is_package#opaque")⟩, ⟨PyData.keyHash P (Str.ofString "load_module"), (.str (Str.ofString "load_module") 199), (.builtin "_frozen_importlib.BuiltinImporter.load_module#opaque")⟩, ⟨PyData.keyHash P (Str.ofString "__static_attributes__"), (.str (Str.ofString "__static_attributes__") 200), (.ref 15)⟩, ⟨PyData.keyHash P (Str.ofString "__dict__"), (.str (Str.ofString "__dict__") 202), (.ref 16)⟩, ⟨PyData.keyHash P (Str.ofString "__weakref__"), (.str (Str.ofString "__weakref__") 204), (.ref 17)⟩]) 14), List.toArray []⟩
noncomputable def h14 (P : Params) : Obj := ⟨(.type "type"), none, (.cls { name := (Str.ofString "BuiltinImporter"), bases := [(.type "object")], mro := [(.ref 14), (.type "object")], ns := 13, qualname := (Str.ofString "BuiltinImporter"), hasDict := true, slotNames := [], subclasses := [], abstract := false, collection := none, hasDel := false }), List.toArray []⟩
noncomputable def h15 (P : Params) : Obj := ⟨(.type "tuple"), none, (.seq (List.toArray []) 0), List.toArray []⟩
noncomputable def h16 (P : Params) : Obj := ⟨(.type "getset_descriptor"), none, (.fields (List.toArray [(.str (Str.ofString "__dict__") 201), (.ref 14), (.builtin "function.__dict__"), (.builtin "function.__dict__#set")])), List.toArray []⟩
noncomputable def h17 (P : Params) : Obj := ⟨(.type "getset_descriptor"), none, (.fields (List.toArray [(.str (Str.ofString "__weakref__") 203), (.ref 14), (.builtin "ExceptionGroup.__weakref__"), .none])), List.toArray []⟩
noncomputable def h18 (P : Params) : Obj := ⟨.none, none, (.seq (List.toArray [(.int 13 0), (.str (Str.mk #[6, 189, 10, 95, 95, 109, 111, 100, 117, 108, 101, 95, 95, 6, 186, 17, 95, 102, 114, 111, 122, 101, 110, 95, 105, 109, 112, 111, 114, 116, 108, 105, 98, 6, 190, 15, 95, 95, 102, 105, 114, 115, 116, 108, 105, 110, 101, 110, 111, 95, 95, 4, 187, 0, 971, 6, 191, 7, 95, 95, 100, 111, 99, 95, 95, 9, 52, 95, 102, 114, 111, 122, 101, 110, 95, 105, 109, 112, 111, 114, 116, 108, 105, 98, 46, 66, 117, 105, 108, 116, 105, 110, 73, 109, 112, 111, 114, 116, 101, 114, 46, 95, 95, 100, 111, 99, 95, 95, 58, 115, 116, 114, 35, 111, 112, 97, 113, 117, 101, 6, 192, 7, 95, 79, 82, 73, 71, 73, 78, 6, 188, 8, 98, 117, 105, 108, 116, 45, 105, 110, 6, 193, 9, 102, 105, 110, 100, 95, 115, 112, 101, 99, 9, 50, 95, 102, 114, 111, 122, 101, 110, 95, 105, 109, 112, 111, 114, 116, 108, 105, 98, 46, 66, 117, 105, 108, 116, 105, 110, 73, 109, 112, 111, 114, 116, 101, 114, 46, 102, 105, 110, 100, 95, 115, 112, 101, 99, 35, 111, 112, 97, 113, 117, 101, 6, 194, 13, 99, 114, 101, 97, 116, 101, 95, 109, 111, 100, 117, 108, 101, 9, 54, 95, 102, 114, 111, 122, 101, 110, 95, 105, 109, 112, 111, 114, 116, 108, 105, 98, 46, 66, 117, 105, 108, 116, 105, 110, 73, 109, 112, 111, 114, 116, 101, 114, 46, 99, 114, 101, 97, 116, 101, 95, 109, 111, 100, 117, 108, 101, 35, 111, 112, 97, 113, 117, 101, 6, 195, 11, 101, 120, 101, 99, 95, 109, 111, 100, 117, 108, 101, 9, 52, 95, 102, 114, 111, 122, 101, 110, 95, 105, 109, 112, 111, 114, 116, 108, 105, 98, 46, 66, 117, 105, 108, 116, 105, 110, 73, 109, 112, 111, 114, 116, 101, 114, 46, 101, 120, 101, 99, 95, 109, 111, 100, 117, 108, 101, 35, 111, 112, 97, 113, 117, 101, 6, 196, 8, 103, 101, 116, 95, 99, 111, 100, 101, 9, 49, 95, 102, 114, 111, 122, 101, 110, 95, 105, 109, 112, 111, 114, 116, 108, 105, 98, 46, 66, 117, 105, 108, 116, 105, 110, 73, 109, 112, 111, 114, 116, 101, 114, 46, 103, 101, 116, 95, 99, 111, 100, 101, 35, 111, 112, 97, 113, 117, 101, 6, 197, 10, 103, 101, 116, 95, 115, 111, 117, 114, 99, 101, 9, 51, 95, 102, 114, 111, 122, 101, 110, 95, 105, 109, 112, 111, 114, 116, 108, 105, 98, 46, 66, 117, 105, 108, 116, 105, 110, 73, 109, 112, 111, 114, 116, 101, 114, 46, 103, 101, 116, 95, 115, 111, 117, 114, 99, 101, 35, 111, 112, 97, 113, 117, 101, 6, 198, 10, 105, 115, 95, 112, 97, 99, 107, 97, 103, 101, 9, 51, 95, 102, 114, 111, 122, 101, 110, 95, 105, 109, 112, 111, 114, 116, 108, 105, 98, 46, 66, 117, 105, 108, 116, 105, 110, 73, 109, 112, 111, 114, 116, 101, 114, 46, 105, 115, 95, 112, 97, 99, 107, 97, 103, 101, 35, 111, 112, 97, 113, 117, 101, 6, 199, 11, 108, 111, 97, 100, 95, 109, 111, 100, 117, 108, 101, 9, 52, 95, 102, 114, 111, 122, 101, 110, 95, 105, 109, 112, 111, 114, 116, 108, 105, 98, 46, 66, 117, 105, 108, 116, 105, 110, 73, 109, 112, 111, 114, 116, 101, 114, 46, 108, 111, 97, 100, 95, 109, 111, 100, 117, 108, 101, 35, 111, 112, 97, 113, 117, 101, 6, 200, 21, 95, 95, 115, 116, 97, 116, 105, 99, 95, 97, 116, 116, 114, 105, 98, 117, 116, 101, 115, 95, 95, 4, 0, 0, 15, 6, 202, 8, 95, 95, 100, 105, 99, 116, 95, 95, 4, 0, 0, 16, 6, 204, 11, 95, 95, 119, 101, 97, 107, 114, 101, 102, 95, 95, 4, 0, 0, 17]) 0), (.bool true), (.bool true), (.str (Str.ofString "") 205), (.int 21 0), (.str (Str.mk #[6, 227, 10, 95, 95, 109, 111, 100, 117, 108, 101, 95, 95, 6, 217, 17, 95, 102, 114, 111, 122, 101, 110, 95, 105, 109, 112, 111, 114, 116, 108, 105, 98, 6, 228, 15, 95, 95, 102, 105, 114, 115, 116, 108, 105, 110, 101, 110, 111, 95, 95, 4, 218, 0, 562, 6, 229, 7, 95, 95, 100, 111, 99, 95, 95, 9, 47, 95, 102, 114, 111, 122, 101, 110, 95, 105, 109, 112, 111, 114, 116, 108, 105, 98, 46, 77, 111, 100, 117, 108, 101, 83, 112, 101, 99, 46, 95, 95, 100, 111, 99, 95, 95, 58, 115, 116, 114, 35, 111, 112, 97, 113, 117, 101, 6, 230, 8, 95, 95, 105, 110, 105, 116, 95, 95, 9, 44, 95, 102, 114, 111, 122, 101, 110, 95, 105, 109, 112, 111, 114, 116, 108, 105, 98, 46, 77, 111, 100, 117, 108, 101, 83, 112, 101, 99, 46, 95, 95, 105, 110, 105, 116, 95, 95, 35, 111, 112, 97, 113, 117, 101, 6, 231, 8, 95, 95, 114, 101, 112, 114, 95, 95, 9, 44, 95, 102, 114, 111, 122, 101, 110, 95, 105, 109, 112, 111, 114, 116, 108, 105, 98, 46, 77, 111, 100, 117, 108, 101, 83, 112, 101, 99, 46, 95, 95, 114, 101, 112, 114, 95, 95, 35, 111, 112, 97, 113, 117, 101, 6, 232, 6, 95, 95, 101, 113, 95, 95, 9, 42, 95, 102, 114, 111, 122, 101, 110, 95, 105, 109, 112, 111, 114, 116, 108, 105, 98, 46, 77, 111, 100, 117, 108, 101, 83, 112, 101, 99, 46, 95, 95, 101, 113, 95, 95, 35, 111, 112, 97, 113, 117, 101, 6, 233, 6, 99, 97, 99, 104, 101, 100, 9, 42, 95, 102, 114, 111, 122, 101, 110, 95, 105, 109, 112, 111, 114, 116, 108, 105, 98, 46, 77, 111, 100, 117, 108, 101, 83, 112, 101, 99, 46, 99, 97, 99, 104, 101, 100, 35, 111, 112, 97, 113, 117, 101, 6, 234, 6, 112, 97, 114, 101, 110, 116, 9, 42, 95, 102, 114, 111, 122, 101, 110, 95, 105, 109, 112, 111, 114, 116, 108, 105, 98, 46, 77, 111, 100, 117, 108, 101, 83, 112, 101, 99, 46, 112, 97, 114, 101, 110, 116, 35, 111, 112, 97, 113, 117, 101, 6, 235, 12, 104, 97, 115, 95, 108, 111, 99, 97, 116, 105, 111, 110, 9, 48, 95, 102, 114, 111, 122, 101, 110, 95, 105, 109, 112, 111, 114, 116, 108, 105, 98, 46, 77, 111, 100, 117, 108, 101, 83, 112, 101, 99, 46, 104, 97, 115, 95, 108, 111, 99, 97, 116, 105, 111, 110, 35, 111, 112, 97, 113, 117, 101, 6, 236, 21, 95, 95, 115, 116, 97, 116, 105, 99, 95, 97, 116, 116, 114, 105, 98, 117, 116, 101, 115, 95, 95, 4, 0, 0, 23, 6, 238, 8, 95, 95, 100, 105, 99, 116, 95, 95, 4, 0, 0, 24, 6, 240, 11, 95, 95, 119, 101, 97, 107, 114, 101, 102, 95, 95, 4, 0, 0, 25, 6, 241, 8, 95, 95, 104, 97, 115, 104, 95, 95, 0]) 0), (.bool true), (.bool true), (.str (Str.ofString "") 242)]) 1), List.toArray []⟩
noncomputable def h19 (P : Params) : Obj := ⟨(.type "list"), none, (.seq (List.toArray []) 0), List.toArray []⟩
noncomputable def h20 (P : Params) : Obj := ⟨(.type "dict"), none, (.dict (List.toArray [⟨PyData.keyHash P (Str.ofString "name"), (.str (Str.ofString "name") 208), (.str (Str.ofString "_sre") 207)⟩, ⟨PyData.keyHash P (Str.ofString "loader"), (.str (Str.ofString "loader") 209), (.ref 14)⟩, ⟨PyData.keyHash P (Str.ofString "origin"), (.str (Str.ofString "origin") 210), (.str (Str.ofString "built-in") 184)⟩, ⟨PyData.keyHash P (Str.ofString "loader_state"), (.str (Str.ofString "loader_state") 211), .none⟩, ⟨PyData.keyHash P (Str.ofString "submodule_search_locations"), (.str (Str.ofString "submodule_search_locations") 212), .none⟩, ⟨PyData.keyHash P (Str.ofString "_uninitialized_submodules"), (.str (Str.ofString "_uninitialized_submodules") 213), (.ref 19)⟩, ⟨PyData.keyHash P (Str.ofString "_set_fileattr"), (.str (Str.ofString "_set_fileattr") 214), (.bool false)⟩, ⟨PyData.keyHash P (Str.ofString "_cached"), (.str (Str.ofString "_cached") 215), .none⟩, ⟨PyData.keyHash P (Str.ofString "_initializing"), (.str (Str.ofString "_initializing") 243), (.bool false)⟩]) 9), List.toArray []⟩
noncomputable def h21 (P : Params) : Obj := ⟨(.type "dict"), none, (.dict (List.toArray [⟨PyData.keyHash P (Str.ofString "__module__"), (.str (Str.ofString "__module__") 227), (.str (Str.ofString "_frozen_importlib") 217)⟩, ⟨PyData.keyHash P (Str.ofString "__firstlineno__"), (.str (Str.ofString "__firstlineno__") 228), (.int 562 218)⟩, ⟨PyData.keyHash P (Str.ofString "__doc__"), (.str (Str.ofString "__doc__") 229), (.builtin "_frozen_importlib.ModuleSpec.__doc__:str#opaque")⟩, ⟨PyData.keyHash P (Str.ofString "__init__"), (.str (Str.ofString "__init__") 230), (.builtin "_frozen_importlib.ModuleSpec.__init__#opaque")⟩, ⟨PyData.keyHash P (Str.ofString "__repr__"), (.str (Str.ofString "__repr__") 231), (.builtin "_frozen_importlib.ModuleSpec.__repr__#opaque")⟩, ⟨PyData.keyHash P (Str.ofString "__eq__"), (.str (Str.ofString "__eq__") 232), (.builtin "_frozen_importlib.ModuleSpec.__eq__#opaque")⟩, ⟨PyData.keyHash P (Str.ofString "cached"), (.str (Str.ofString "cached") 233), (.builtin "_frozen_importlib.ModuleSpec.cached#opaque")⟩, ⟨PyData.keyHash P (Str.ofString "parent"), (.str (Str.ofString "parent") 234), (.builtin "_frozen_importlib.ModuleSpec.parent#opaque")⟩, ⟨PyData.keyHash P (Str.ofString "has_location"), (.str (Str.ofString "has_location") 235), (.builtin "_frozen_importlib.ModuleSpec.has_location#opaque")⟩, ⟨PyData.keyHash P (Str.ofString "__static_attributes__"), (.str (Str.ofString "__static_attributes__") 236), (.ref 23)⟩, ⟨PyData.keyHash P (Str.ofString "__dict__"), (.str (Str.ofString "__dict__") 238), (.ref 24)⟩, ⟨PyData.keyHash P (Str.ofString "__weakref__"), (.str (Str.ofString "__weakref__") 240), (.ref 25)⟩, ⟨PyData.keyHash P (Str.ofString "__hash__"), (.str (Str.ofString "__hash__") 241), .none⟩]) 13), List.toArray []⟩
noncomputable def h22 (P : Params) : Obj := ⟨(.type "type"), none, (.cls { name := (Str.ofString "ModuleSpec"), bases := [(.type "object")], mro := [(.ref 22), (.type "object")], ns := 21, qualname := (Str.ofString "ModuleSpec"), hasDict := true, slotNames := [], subclasses := [], abstract := false, collection := none, hasDel := false }), List.toArray []⟩
noncomputable def h23 (P : Params) : Obj := ⟨(.type "tuple"), none, (.seq (List.toArray [(.str (Str.ofString "_cached") 219), (.str (Str.ofString "_set_fileattr") 220), (.str (Str.ofString "_uninitialized_submodules") 221), (.str (Str.ofString "loader") 222), (.str (Str.ofString "loader_state") 223), (.str (Str.ofString "name") 224), (.str (Str.ofString "origin") 225), (.str (Str.ofString "submodule_search_locations") 226)]) 0), List.toArray []⟩
noncomputable def h24 (P : Params) : Obj := ⟨(.type "getset_descriptor"), none, (.fields (List.toArray [(.str (Str.ofString "__dict__") 237), (.ref 22), (.builtin "function.__dict__"), (.builtin "function.__dict__#set")])), List.toArray []⟩
noncomputable def h25 (P : Params) : Obj := ⟨(.type "getset_descriptor"), none, (.fields (List.toArray [(.str (Str.ofString "__weakref__") 239), (.ref 22), (.builtin "ExceptionGroup.__weakref__"), .none])), List.toArray []⟩
noncomputable def h26 (P : Params) : Obj := ⟨(.ref 22), (some 20), .plain, List.toArray []⟩
noncomputable def h27 (P : Params) : Obj := ⟨.none, none, (.seq (List.toArray [(.int 11 0), (.str (Str.mk #[6, 247, 8, 95, 95, 110, 97, 109, 101, 95, 95, 6, 246, 4, 95, 115, 114, 101, 6, 248, 7, 95, 95, 100, 111, 99, 95, 95, 0, 6, 250, 11, 95, 95, 112, 97, 99, 107, 97, 103, 101, 95, 95, 6, 249, 0, 6, 251, 10, 95, 95, 108, 111, 97, 100, 101, 114, 95, 95, 4, 0, 0, 14, 6, 252, 8, 95, 95, 115, 112, 101, 99, 95, 95, 4, 0, 0, 26, 6, 253, 7, 99, 111, 109, 112, 105, 108, 101, 9, 12, 95, 115, 114, 101, 46, 99, 111, 109, 112, 105, 108, 101, 6, 254, 8, 116, 101, 109, 112, 108, 97, 116, 101, 9, 13, 95, 115, 114, 101, 46, 116, 101, 109, 112, 108, 97, 116, 101, 6, 255, 11, 103, 101, 116, 99, 111, 100, 101, 115, 105, 122, 101, 9, 16, 95, 115, 114, 101, 46, 103, 101, 116, 99, 111, 100, 101, 115, 105, 122, 101, 6, 256, 13, 97, 115, 99, 105, 105, 95, 105, 115, 99, 97, 115, 101, 100, 9, 18, 95, 115, 114, 101, 46, 97, 115, 99, 105, 105, 95, 105, 115, 99, 97, 115, 101, 100, 6, 257, 15, 117, 110, 105, 99, 111, 100, 101, 95, 105, 115, 99, 97, 115, 101, 100, 9, 20, 95, 115, 114, 101, 46, 117, 110, 105, 99, 111, 100, 101, 95, 105, 115, 99, 97, 115, 101, 100, 6, 258, 13, 97, 115, 99, 105, 105, 95, 116, 111, 108, 111, 119, 101, 114, 9, 18, 95, 115, 114, 101, 46, 97, 115, 99, 105, 105, 95, 116, 111, 108, 111, 119, 101, 114, 6, 259, 15, 117, 110, 105, 99, 111, 100, 101, 95, 116, 111, 108, 111, 119, 101, 114, 9, 20, 95, 115, 114, 101, 46, 117, 110, 105, 99, 111, 100, 101, 95, 116, 111, 108, 111, 119, 101, 114, 6, 261, 5, 77, 65, 71, 73, 67, 4, 260, 0, 20230612, 6, 263, 8, 67, 79, 68, 69, 83, 73, 90, 69, 4, 262, 0, 4, 6, 265, 9, 77, 65, 88, 82, 69, 80, 69, 65, 84, 4, 264, 0, 4294967295, 6, 267, 9, 77, 65, 88, 71, 82, 79, 85, 80, 83, 4, 266, 0, 1073741823, 6, 269, 9, 99, 111, 112, 121, 114, 105, 103, 104, 116, 6, 268, 53, 32, 83, 82, 69, 32, 50, 46, 50, 46, 50, 32, 67, 111, 112, 121, 114, 105, 103, 104, 116, 32, 40, 99, 41, 32, 49, 57, 57, 55, 45, 50, 48, 48, 50, 32, 98, 121, 32, 83, 101, 99, 114, 101, 116, 32, 76, 97, 98, 115, 32, 65, 66, 32]) 0), (.bool true), (.bool false), (.str (Str.ofString "_sre") 271)]) 0), List.toArray []⟩
noncomputable def h28 (P : Params) : Obj := ⟨(.type "tuple"), none, (.seq (List.toArray []) 0), List.toArray []⟩
noncomputable def h29 (P : Params) : Obj := ⟨.none, none, (.fields (List.toArray [(.int 4 0), (.int 0 0), (.ref 48), (.int 7 0), (.int 0 0), (.ref 94), (.int 16 0), (.int 0 0), (.ref 111), (.int 19 0), (.int 0 0), (.ref 118), (.int 21 0), (.int 0 0), (.ref 125), (.int 33 0), (.int 0 0), (.ref 132), (.int 36 0), (.int 0 0), (.ref 139), (.int 39 0), (.int 0 0), (.ref 146), (.int 43 0), (.int 0 0), (.ref 153), (.int 49 0), (.int 0 0), (.ref 160), (.int 58 0), (.int 0 0), (.ref 167), (.int 74 0), (.int 0 0), (.ref 174), (.int 76 0), (.int 0 0), (.ref 179)])), List.toArray []⟩
noncomputable def h30 (P : Params) : Obj := ⟨(.type "code"), none, (.fields (List.toArray [(.str (Str.ofString "<module>") 277), (.str (Str.ofString "<module>") 278), (.str (Str.ofString "/claim/cut.py") 279), (.int 1 0), (.int 0 0), (.int 0 0), (.int 0 0), (.int 0 0), (.ref 28), (.bool false), (.int 276 0), (.ref 29), .none, .none, .none, .none, (.int 280 0), (.int 1 0), (.str (Str.ofString "/claim/cut.py") 281)])), List.toArray []⟩
noncomputable def h31 (P : Params) : Obj := ⟨(.type "frame"), none, .plain, List.toArray [(some (.ref 30)), (some (.ref 3)), (some (.ref 3)), none, (some (.str (Str.ofString "__main__") 164)), none, (some (.ref 0))]⟩
noncomputable def h32 (P : Params) : Obj := ⟨(.type "list"), none, (.seq (List.toArray [(.int 173 284), (.int 847 285), (.int 6150 286), (.int 6155 287), (.int 6156 288), (.int 6157 289), (.int 8203 290), (.int 8204 291), (.int 8205 292), (.int 8288 293), (.int 65279 294)]) 0), List.toArray []⟩
noncomputable def h33 (P : Params) : Obj := ⟨(.type "range"), none, (.fields (List.toArray [(.int 65024 295), (.int 65040 296), (.int 1 297)])), List.toArray []⟩
noncomputable def h34 (P : Params) : Obj := ⟨(.type "list"), none, (.seq (List.toArray [(.int 65024 300), (.int 65025 301), (.int 65026 302), (.int 65027 303), (.int 65028 304), (.int 65029 305), (.int 65030 306), (.int 65031 307), (.int 65032 308), (.int 65033 309), (.int 65034 310), (.int 65035 311), (.int 65036 312), (.int 65037 313), (.int 65038 314), (.int 65039 315)]) 18), List.toArray []⟩
noncomputable def h35 (P : Params) : Obj := ⟨(.type "range_iterator"), none, (.fields (List.toArray [(.int 65040 0), (.int 0 0), (.int 1 0)])), List.toArray []⟩
noncomputable def h36 (P : Params) : Obj := ⟨(.type "tuple"), none, (.seq (List.toArray []) 0), List.toArray []⟩
noncomputable def h37 (P : Params) : Obj := ⟨(.type "StopIteration"), none, (.fields (List.toArray [(.ref 36), .none, .none, .none, (.bool false), .none])), List.toArray []⟩
noncomputable def h38 (P : Params) : Obj := ⟨(.type "list"), none, (.seq (List.toArray [(.int 173 284), (.int 847 285), (.int 6150 286), (.int 6155 287), (.int 6156 288), (.int 6157 289), (.int 8203 290), (.int 8204 291), (.int 8205 292), (.int 8288 293), (.int 65279 294), (.int 65024 300), (.int 65025 301), (.int 65026 302), (.int 65027 303), (.int 65028 304), (.int 65029 305), (.int 65030 306), (.int 65031 307), (.int 65032 308), (.int 65033 309), (.int 65034 310), (.int 65035 311), (.int 65036 312), (.int 65037 313), (.int 65038 314), (.int 65039 315)]) 0), List.toArray []⟩
noncomputable def h40 (P : Params) : Obj := ⟨(.type "list_iterator"), none, (.fields (List.toArray [.none, (.int 27 0)])), List.toArray []⟩
noncomputable def h41 (P : Params) : Obj := ⟨(.type "tuple"), none, (.seq (List.toArray []) 0), List.toArray []⟩
noncomputable def h42 (P : Params) : Obj := ⟨(.type "StopIteration"), none, (.fields (List.toArray [(.ref 41), .none, .none, .none, (.bool false), .none])), List.toArray []⟩
noncomputable def h44 (P : Params) : Obj := ⟨.none, none, (.fields (List.toArray [])), List.toArray []⟩
noncomputable def h47 (P : Params) : Obj := ⟨.none, none, (.func { (fnOf (Str.ofString "in_table_b1") (Str.ofString "in_table_b1") ar2 bd2 sc2 .none .none .none .none none .none .none) with globals := 0 }), List.toArray []⟩
noncomputable def h90 (P : Params) : Obj := ⟨.none, none, (.fields (List.toArray [])), List.toArray []⟩
noncomputable def h93 (P : Params) : Obj := ⟨.none, none, (.func { (fnOf (Str.ofString "map_table_b3") (Str.ofString "map_table_b3") ar4 bd4 sc4 .none .none .none .none none .none .none) with globals := 0 }), List.toArray []⟩
noncomputable def h96 (P : Params) : Obj := ⟨(.type "list"), none, (.seq (List.toArray [(.int 14 2315), (.int 4 2316), (.int 0 2317), (.int 1 2318), (.int 1 2319), (.int 6 2320), (.int 1 2321), (.int 16 2322), (.int 46 2323), (.int 1 2324)]) 0), List.toArray []⟩
noncomputable def h97 (P : Params) : Obj := ⟨(.type "dict"), none, (.dict (List.toArray []) 0), List.toArray []⟩
noncomputable def h98 (P : Params) : Obj := ⟨(.type "tuple"), none, (.seq (List.toArray [.none]) 0), List.toArray []⟩
noncomputable def h101 (P : Params) : Obj := ⟨(.type "list"), none, (.seq (List.toArray [(.int 14 2331), (.int 9 2332), (.int 4 2333), (.int 1 2334), (.int 2 2335), (.int 16 2336), (.int 10 2337), (.int 16 2338), (.int 13 2339), (.int 0 2340), (.int 7 2341), (.int 7 2342), (.int 16 2343), (.int 13 2344), (.int 16 2345), (.int 10 2346), (.int 15 2347), (.int 18 2348), (.int 5 2349), (.int 16 2350), (.int 10 2351), (.int 15 2352), (.int 13 2353), (.int 11 2354), (.int 16 2355), (.int 13 2356), (.int 5 2357), (.int 5 2358), (.int 0 2359), (.int 16 2360), (.int 10 2361), (.int 1 2362), (.int 15 2363), (.int 2 2364), (.int 0 2365), (.int 1 2366)]) 0), List.toArray []⟩
noncomputable def h102 (P : Params) : Obj := ⟨(.type "dict"), none, (.dict (List.toArray []) 0), List.toArray []⟩
noncomputable def h103 (P : Params) : Obj := ⟨(.type "tuple"), none, (.seq (List.toArray [.none]) 0), List.toArray []⟩
noncomputable def h107 (P : Params) : Obj := ⟨.none, none, (.fields (List.toArray [])), List.toArray []⟩
noncomputable def h110 (P : Params) : Obj := ⟨.none, none, (.func { (fnOf (Str.ofString "quotedata") (Str.ofString "quotedata") ar9 bd9 sc9 .none .none .none .none none .none .none) with globals := 0 }), List.toArray []⟩
noncomputable def h114 (P : Params) : Obj := ⟨.none, none, (.fields (List.toArray [])), List.toArray []⟩
noncomputable def h117 (P : Params) : Obj := ⟨.none, none, (.func { (fnOf (Str.ofString "_raise_serialization_error") (Str.ofString "_raise_serialization_error") ar11 bd11 sc11 .none .none .none .none none .none .none) with globals := 0 }), List.toArray []⟩
noncomputable def h121 (P : Params) : Obj := ⟨.none, none, (.fields (List.toArray [])), List.toArray []⟩
noncomputable def h124 (P : Params) : Obj := ⟨.none, none, (.func { (fnOf (Str.ofString "_escape_cdata") (Str.ofString "_escape_cdata") ar12 bd12 sc12 .none .none .none .none none .none .none) with globals := 0 }), List.toArray []⟩
noncomputable def h128 (P : Params) : Obj := ⟨.none, none, (.fields (List.toArray [])), List.toArray []⟩
noncomputable def h131 (P : Params) : Obj := ⟨.none, none, (.func { (fnOf (Str.ofString "_law_nothing") (Str.ofString "_law_nothing") ar14 bd14 sc14 .none .none .none .none none .none .none) with globals := 0 }), List.toArray []⟩
noncomputable def h135 (P : Params) : Obj := ⟨.none, none, (.fields (List.toArray [])), List.toArray []⟩
noncomputable def h138 (P : Params) : Obj := ⟨.none, none, (.func { (fnOf (Str.ofString "_law_letter") (Str.ofString "_law_letter") ar15 bd15 sc15 .none .none .none .none none .none .none) with globals := 0 }), List.toArray []⟩
noncomputable def h142 (P : Params) : Obj := ⟨.none, none, (.fields (List.toArray [])), List.toArray []⟩
noncomputable def h145 (P : Params) : Obj := ⟨.none, none, (.func { (fnOf (Str.ofString "_law_plain") (Str.ofString "_law_plain") ar16 bd16 sc16 .none .none .none .none none .none .none) with globals := 0 }), List.toArray []⟩
noncomputable def h149 (P : Params) : Obj := ⟨.none, none, (.fields (List.toArray [])), List.toArray []⟩
noncomputable def h152 (P : Params) : Obj := ⟨.none, none, (.func { (fnOf (Str.ofString "_law_word") (Str.ofString "_law_word") ar17 bd17 sc17 .none .none .none .none none .none .none) with globals := 0 }), List.toArray []⟩
noncomputable def h156 (P : Params) : Obj := ⟨.none, none, (.fields (List.toArray [])), List.toArray []⟩
noncomputable def h159 (P : Params) : Obj := ⟨.none, none, (.func { (fnOf (Str.ofString "_law_prepared") (Str.ofString "_law_prepared") ar18 bd18 sc18 .none .none .none .none none .none .none) with globals := 0 }), List.toArray []⟩
noncomputable def h163 (P : Params) : Obj := ⟨.none, none, (.fields (List.toArray [])), List.toArray []⟩
noncomputable def h166 (P : Params) : Obj := ⟨.none, none, (.func { (fnOf (Str.ofString "_law_piece") (Str.ofString "_law_piece") ar19 bd19 sc19 .none .none .none .none none .none .none) with globals := 0 }), List.toArray []⟩
noncomputable def h170 (P : Params) : Obj := ⟨.none, none, (.fields (List.toArray [])), List.toArray []⟩
noncomputable def h173 (P : Params) : Obj := ⟨.none, none, (.func { (fnOf (Str.ofString "_law_page") (Str.ofString "_law_page") ar20 bd20 sc20 .none .none .none .none none .none .none) with globals := 0 }), List.toArray []⟩
noncomputable def h177 (P : Params) : Obj := ⟨.none, none, (.fields (List.toArray [])), List.toArray []⟩
noncomputable def h178 (P : Params) : Obj := ⟨.none, none, (.func { (fnOf (Str.ofString "law") (Str.ofString "law") ar21 bd21 sc21 .none .none .none .none none .none .none) with globals := 0 }), List.toArray []⟩
noncomputable def h3_s (P : Params) : Obj := ⟨(.type "dict"), none, (.dict (List.toArray [⟨PyData.keyHash P (Str.ofString "__name__"), (.str (Str.ofString "__name__") 165), (.str (Str.ofString "__main__") 164)⟩, ⟨PyData.keyHash P (Str.ofString "__doc__"), (.str (Str.ofString "__doc__") 166), .none⟩, ⟨PyData.keyHash P (Str.ofString "__package__"), (.str (Str.ofString "__package__") 167), .none⟩, ⟨PyData.keyHash P (Str.ofString "__loader__"), (.str (Str.ofString "__loader__") 168), (.builtin "__main__.__loader__#opaque")⟩, ⟨PyData.keyHash P (Str.ofString "__spec__"), (.str (Str.ofString "__spec__") 169), .none⟩, ⟨PyData.keyHash P (Str.ofString "__annotations__"), (.str (Str.ofString "__annotations__") 170), (.ref 6)⟩, ⟨PyData.keyHash P (Str.ofString "__builtins__"), (.str (Str.ofString "__builtins__") 171), (.ref 4)⟩, ⟨PyData.keyHash P (Str.ofString "__file__"), (.str (Str.ofString "__file__") 173), (.str (Str.ofString "/claim/cut.py") 172)⟩, ⟨PyData.keyHash P (Str.ofString "__cached__"), (.str (Str.ofString "__cached__") 174), .none⟩, ⟨PyData.keyHash P (Str.ofString "_sre"), (.str (Str.ofString "_sre") 275), (.ref 12)⟩]) 10), List.toArray []⟩
noncomputable def Hs (P : Params) : Heap := ⟨Array.mk [(h0 P), (h1 P), (o2 P), (h3_s P), (h4 P), (h5 P), (o6 P), (h7 P), (h8 P), (h9 P), (h10 P), (o11 P), (o12 P), (h13 P), (h14 P), (h15 P), (h16 P), (h17 P), (h18 P), (h19 P), (h20 P), (h21 P), (h22 P), (h23 P), (h24 P), (h25 P), (h26 P), (h27 P)], { }⟩
noncomputable def h29_a (P : Params) : Obj := ⟨.none, none, (.fields (List.toArray [])), List.toArray []⟩
noncomputable def Ha (P : Params) : Heap := ⟨Array.mk [(h0 P), (h1 P), (o2 P), (h3_s P), (h4 P), (h5 P), (o6 P), (h7 P), (h8 P), (h9 P), (h10 P), (o11 P), (o12 P), (h13 P), (h14 P), (h15 P), (h16 P), (h17 P), (h18 P), (h19 P), (h20 P), (h21 P), (h22 P), (h23 P), (h24 P), (h25 P), (h26 P), (h27 P), (h28 P), (h29_a P), (h30 P), (h31 P)], { }⟩
noncomputable def Tb (P : Params) : BT := (.node (h0 P) (.node (h1 P) (.node (h3_s P) (.node (h7 P) (.node (h15 P) (.node (h31 P) .nil .nil) .nil) (.node (h23 P) .nil .nil)) (.node (o11 P) (.node (h19 P) .nil .nil) (.node (h27 P) .nil .nil))) (.node (h5 P) (.node (h9 P) (.node (h17 P) .nil .nil) (.node (h25 P) .nil .nil)) (.node (h13 P) (.node (h21 P) .nil .nil) (.node (h29_a P) .nil .nil)))) (.node (o2 P) (.node (h4 P) (.node (h8 P) (.node (h16 P) .nil .nil) (.node (h24 P) .nil .nil)) (.node (o12 P) (.node (h20 P) .nil .nil) (.node (h28 P) .nil .nil))) (.node (o6 P) (.node (h10 P) (.node (h18 P) .nil .nil) (.node (h26 P) .nil .nil)) (.node (h14 P) (.node (h22 P) .nil .nil) (.node (h30 P) .nil .nil)))))
noncomputable abbrev Sb (w : World) (os : OsState) : SharedT := ⟨Tb w.params, 32, { }, Array.mk [], { }, 282, os⟩
noncomputable def h3_0 (P : Params) : Obj := ⟨(.type "dict"), none, (.dict (List.toArray [⟨PyData.keyHash P (Str.ofString "__name__"), (.str (Str.ofString "__name__") 165), (.str (Str.ofString "cpy313.stringprep") 282)⟩, ⟨PyData.keyHash P (Str.ofString "__doc__"), (.str (Str.ofString "__doc__") 166), .none⟩, ⟨PyData.keyHash P (Str.ofString "__package__"), (.str (Str.ofString "__package__") 167), .none⟩, ⟨PyData.keyHash P (Str.ofString "__loader__"), (.str (Str.ofString "__loader__") 168), (.builtin "__main__.__loader__#opaque")⟩, ⟨PyData.keyHash P (Str.ofString "__spec__"), (.str (Str.ofString "__spec__") 169), .none⟩, ⟨PyData.keyHash P (Str.ofString "__annotations__"), (.str (Str.ofString "__annotations__") 170), (.ref 6)⟩, ⟨PyData.keyHash P (Str.ofString "__builtins__"), (.str (Str.ofString "__builtins__") 171), (.ref 4)⟩, ⟨PyData.keyHash P (Str.ofString "__file__"), (.str (Str.ofString "__file__") 173), (.str (Str.ofString "/claim/cut.py") 172)⟩, ⟨PyData.keyHash P (Str.ofString "__cached__"), (.str (Str.ofString "__cached__") 174), .none⟩, ⟨PyData.keyHash P (Str.ofString "_sre"), (.str (Str.ofString "_sre") 275), (.ref 12)⟩]) 10), List.toArray []⟩
noncomputable def T0 (P : Params) : BT := (.node (h0 P) (.node (h1 P) (.node (h3_0 P) (.node (h7 P) (.node (h15 P) (.node (h31 P) .nil .nil) .nil) (.node (h23 P) .nil .nil)) (.node (o11 P) (.node (h19 P) .nil .nil) (.node (h27 P) .nil .nil))) (.node (h5 P) (.node (h9 P) (.node (h17 P) .nil .nil) (.node (h25 P) .nil .nil)) (.node (h13 P) (.node (h21 P) .nil .nil) (.node (h29_a P) .nil .nil)))) (.node (o2 P) (.node (h4 P) (.node (h8 P) (.node (h16 P) .nil .nil) (.node (h24 P) .nil .nil)) (.node (o12 P) (.node (h20 P) .nil .nil) (.node (h28 P) .nil .nil))) (.node (o6 P) (.node (h10 P) (.node (h18 P) .nil .nil) (.node (h26 P) .nil .nil)) (.node (h14 P) (.node (h22 P) .nil .nil) (.node (h30 P) .nil .nil)))))
noncomputable abbrev S0 (w : World) (os : OsState) : SharedT := ⟨T0 w.params, 32, { }, Array.mk [], { }, 284, os⟩
noncomputable def h3_1 (P : Params) : Obj := ⟨(.type "dict"), none, (.dict (List.toArray [⟨PyData.keyHash P (Str.ofString "__name__"), (.str (Str.ofString "__name__") 165), (.str (Str.ofString "cpy313.stringprep") 282)⟩, ⟨PyData.keyHash P (Str.ofString "__doc__"), (.str (Str.ofString "__doc__") 166), .none⟩, ⟨PyData.keyHash P (Str.ofString "__package__"), (.str (Str.ofString "__package__") 167), .none⟩, ⟨PyData.keyHash P (Str.ofString "__loader__"), (.str (Str.ofString "__loader__") 168), (.builtin "__main__.__loader__#opaque")⟩, ⟨PyData.keyHash P (Str.ofString "__spec__"), (.str (Str.ofString "__spec__") 169), .none⟩, ⟨PyData.keyHash P (Str.ofString "__annotations__"), (.str (Str.ofString "__annotations__") 170), (.ref 6)⟩, ⟨PyData.keyHash P (Str.ofString "__builtins__"), (.str (Str.ofString "__builtins__") 171), (.ref 4)⟩, ⟨PyData.keyHash P (Str.ofString "__file__"), (.str (Str.ofString "__file__") 173), (.str (Str.ofString "/claim/cut.py") 172)⟩, ⟨PyData.keyHash P (Str.ofString "__cached__"), (.str (Str.ofString "__cached__") 174), .none⟩, ⟨PyData.keyHash P (Str.ofString "_sre"), (.str (Str.ofString "_sre") 275), (.ref 12)⟩, ⟨PyData.keyHash P (Str.ofString "b1_set"), (.str (Str.ofString "b1_set") 343), (.ref 39)⟩]) 11), List.toArray []⟩
noncomputable def T1 (P : Params) : BT := (.node (h0 P) (.node (h1 P) (.node (h3_1 P) (.node (h7 P) (.node (h15 P) (.node (h31 P) .nil .nil) .nil) (.node (h23 P) (.node (o39 P) .nil .nil) .nil)) (.node (o11 P) (.node (h19 P) (.node (h35 P) .nil .nil) .nil) (.node (h27 P) .nil .nil))) (.node (h5 P) (.node (h9 P) (.node (h17 P) (.node (h33 P) .nil .nil) .nil) (.node (h25 P) (.node (h41 P) .nil .nil) .nil)) (.node (h13 P) (.node (h21 P) (.node (h37 P) .nil .nil) .nil) (.node (h29_a P) .nil .nil)))) (.node (o2 P) (.node (h4 P) (.node (h8 P) (.node (h16 P) (.node (h32 P) .nil .nil) .nil) (.node (h24 P) (.node (h40 P) .nil .nil) .nil)) (.node (o12 P) (.node (h20 P) (.node (h36 P) .nil .nil) .nil) (.node (h28 P) .nil .nil))) (.node (o6 P) (.node (h10 P) (.node (h18 P) (.node (h34 P) .nil .nil) .nil) (.node (h26 P) (.node (h42 P) .nil .nil) .nil)) (.node (h14 P) (.node (h22 P) (.node (h38 P) .nil .nil) .nil) (.node (h30 P) .nil .nil)))))
noncomputable abbrev S1 (w : World) (os : OsState) : SharedT := ⟨T1 w.params, 43, { }, Array.mk [], { }, 344, os⟩
noncomputable def h3_2 (P : Params) : Obj := ⟨(.type "dict"), none, (.dict (List.toArray [⟨PyData.keyHash P (Str.ofString "__name__"), (.str (Str.ofString "__name__") 165), (.str (Str.ofString "cpy313.stringprep") 282)⟩, ⟨PyData.keyHash P (Str.ofString "__doc__"), (.str (Str.ofString "__doc__") 166), .none⟩, ⟨PyData.keyHash P (Str.ofString "__package__"), (.str (Str.ofString "__package__") 167), .none⟩, ⟨PyData.keyHash P (Str.ofString "__loader__"), (.str (Str.ofString "__loader__") 168), (.builtin "__main__.__loader__#opaque")⟩, ⟨PyData.keyHash P (Str.ofString "__spec__"), (.str (Str.ofString "__spec__") 169), .none⟩, ⟨PyData.keyHash P (Str.ofString "__annotations__"), (.str (Str.ofString "__annotations__") 170), (.ref 6)⟩, ⟨PyData.keyHash P (Str.ofString "__builtins__"), (.str (Str.ofString "__builtins__") 171), (.ref 4)⟩, ⟨PyData.keyHash P (Str.ofString "__file__"), (.str (Str.ofString "__file__") 173), (.str (Str.ofString "/claim/cut.py") 172)⟩, ⟨PyData.keyHash P (Str.ofString "__cached__"), (.str (Str.ofString "__cached__") 174), .none⟩, ⟨PyData.keyHash P (Str.ofString "_sre"), (.str (Str.ofString "_sre") 275), (.ref 12)⟩, ⟨PyData.keyHash P (Str.ofString "b1_set"), (.str (Str.ofString "b1_set") 343), (.ref 39)⟩, ⟨PyData.keyHash P (Str.ofString "in_table_b1"), (.str (Str.ofString "in_table_b1") 350), (.ref 49)⟩]) 12), List.toArray []⟩
noncomputable def h29_2 (P : Params) : Obj := ⟨.none, none, (.fields (List.toArray [(.int 4 0), (.int 0 0), (.ref 48)])), List.toArray []⟩
noncomputable def T2 (P : Params) : BT := (.node (h0 P) (.node (h1 P) (.node (h3_2 P) (.node (h7 P) (.node (h15 P) (.node (h31 P) .nil .nil) (.node (h47 P) .nil .nil)) (.node (h23 P) (.node (o39 P) .nil .nil) .nil)) (.node (o11 P) (.node (h19 P) (.node (h35 P) .nil .nil) .nil) (.node (h27 P) (.node (o43 P) .nil .nil) .nil))) (.node (h5 P) (.node (h9 P) (.node (h17 P) (.node (h33 P) .nil .nil) (.node (o49 P) .nil .nil)) (.node (h25 P) (.node (h41 P) .nil .nil) .nil)) (.node (h13 P) (.node (h21 P) (.node (h37 P) .nil .nil) .nil) (.node (h29_2 P) (.node (o45 P) .nil .nil) .nil)))) (.node (o2 P) (.node (h4 P) (.node (h8 P) (.node (h16 P) (.node (h32 P) .nil .nil) (.node (o48 P) .nil .nil)) (.node (h24 P) (.node (h40 P) .nil .nil) .nil)) (.node (o12 P) (.node (h20 P) (.node (h36 P) .nil .nil) .nil) (.node (h28 P) (.node (h44 P) .nil .nil) .nil))) (.node (o6 P) (.node (h10 P) (.node (h18 P) (.node (h34 P) .nil .nil) .nil) (.node (h26 P) (.node (h42 P) .nil .nil) .nil)) (.node (h14 P) (.node (h22 P) (.node (h38 P) .nil .nil) .nil) (.node (h30 P) (.node (o46 P) .nil .nil) .nil)))))
noncomputable abbrev S2 (w : World) (os : OsState) : SharedT := ⟨T2 w.params, 50, { }, Array.mk [], { }, 351, os⟩
noncomputable def h3_3 (P : Params) : Obj := ⟨(.type "dict"), none, (.dict (List.toArray [⟨PyData.keyHash P (Str.ofString "__name__"), (.str (Str.ofString "__name__") 165), (.str (Str.ofString "cpy313.stringprep") 282)⟩, ⟨PyData.keyHash P (Str.ofString "__doc__"), (.str (Str.ofString "__doc__") 166), .none⟩, ⟨PyData.keyHash P (Str.ofString "__package__"), (.str (Str.ofString "__package__") 167), .none⟩, ⟨PyData.keyHash P (Str.ofString "__loader__"), (.str (Str.ofString "__loader__") 168), (.builtin "__main__.__loader__#opaque")⟩, ⟨PyData.keyHash P (Str.ofString "__spec__"), (.str (Str.ofString "__spec__") 169), .none⟩, ⟨PyData.keyHash P (Str.ofString "__annotations__"), (.str (Str.ofString "__annotations__") 170), (.ref 6)⟩, ⟨PyData.keyHash P (Str.ofString "__builtins__"), (.str (Str.ofString "__builtins__") 171), (.ref 4)⟩, ⟨PyData.keyHash P (Str.ofString "__file__"), (.str (Str.ofString "__file__") 173), (.str (Str.ofString "/claim/cut.py") 172)⟩, ⟨PyData.keyHash P (Str.ofString "__cached__"), (.str (Str.ofString "__cached__") 174), .none⟩, ⟨PyData.keyHash P (Str.ofString "_sre"), (.str (Str.ofString "_sre") 275), (.ref 12)⟩, ⟨PyData.keyHash P (Str.ofString "b1_set"), (.str (Str.ofString "b1_set") 343), (.ref 39)⟩, ⟨PyData.keyHash P (Str.ofString "in_table_b1"), (.str (Str.ofString "in_table_b1") 350), (.ref 49)⟩, ⟨PyData.keyHash P (Str.ofString "b3_exceptions"), (.str (Str.ofString "b3_exceptions") 2301), (.ref 50)⟩]) 13), List.toArray []⟩
noncomputable def T3 (P : Params) : BT := (.node (h0 P) (.node (h1 P) (.node (h3_3 P) (.node (h7 P) (.node (h15 P) (.node (h31 P) (.node (sub 12) .nil .nil) .nil) (.node (h47 P) (.node (sub 28) .nil .nil) .nil)) (.node (h23 P) (.node (o39 P) (.node (sub 20) .nil .nil) .nil) (.node (sub 4) (.node (sub 36) .nil .nil) .nil))) (.node (o11 P) (.node (h19 P) (.node (h35 P) (.node (sub 16) .nil .nil) .nil) (.node (sub 0) (.node (sub 32) .nil .nil) .nil)) (.node (h27 P) (.node (o43 P) (.node (sub 24) .nil .nil) .nil) (.node (sub 8) .nil .nil)))) (.node (h5 P) (.node (h9 P) (.node (h17 P) (.node (h33 P) (.node (sub 14) .nil .nil) .nil) (.node (o49 P) (.node (sub 30) .nil .nil) .nil)) (.node (h25 P) (.node (h41 P) (.node (sub 22) .nil .nil) .nil) (.node (sub 6) .nil .nil))) (.node (h13 P) (.node (h21 P) (.node (h37 P) (.node (sub 18) .nil .nil) .nil) (.node (sub 2) (.node (sub 34) .nil .nil) .nil)) (.node (h29_2 P) (.node (o45 P) (.node (sub 26) .nil .nil) .nil) (.node (sub 10) .nil .nil))))) (.node (o2 P) (.node (h4 P) (.node (h8 P) (.node (h16 P) (.node (h32 P) (.node (sub 13) .nil .nil) .nil) (.node (o48 P) (.node (sub 29) .nil .nil) .nil)) (.node (h24 P) (.node (h40 P) (.node (sub 21) .nil .nil) .nil) (.node (sub 5) (.node (sub 37) .nil .nil) .nil))) (.node (o12 P) (.node (h20 P) (.node (h36 P) (.node (sub 17) .nil .nil) .nil) (.node (sub 1) (.node (sub 33) .nil .nil) .nil)) (.node (h28 P) (.node (h44 P) (.node (sub 25) .nil .nil) .nil) (.node (sub 9) .nil .nil)))) (.node (o6 P) (.node (h10 P) (.node (h18 P) (.node (h34 P) (.node (sub 15) .nil .nil) .nil) (.node (o50 P) (.node (sub 31) .nil .nil) .nil)) (.node (h26 P) (.node (h42 P) (.node (sub 23) .nil .nil) .nil) (.node (sub 7) .nil .nil))) (.node (h14 P) (.node (h22 P) (.node (h38 P) (.node (sub 19) .nil .nil) .nil) (.node (sub 3) (.node (sub 35) .nil .nil) .nil)) (.node (h30 P) (.node (o46 P) (.node (sub 27) .nil .nil) .nil) (.node (sub 11) .nil .nil))))))
noncomputable abbrev S3 (w : World) (os : OsState) : SharedT := ⟨T3 w.params, 89, { }, Array.mk [], { }, 2302, os⟩
noncomputable def h3_4 (P : Params) : Obj := ⟨(.type "dict"), none, (.dict (List.toArray [⟨PyData.keyHash P (Str.ofString "__name__"), (.str (Str.ofString "__name__") 165), (.str (Str.ofString "cpy313.stringprep") 282)⟩, ⟨PyData.keyHash P (Str.ofString "__doc__"), (.str (Str.ofString "__doc__") 166), .none⟩, ⟨PyData.keyHash P (Str.ofString "__package__"), (.str (Str.ofString "__package__") 167), .none⟩, ⟨PyData.keyHash P (Str.ofString "__loader__"), (.str (Str.ofString "__loader__") 168), (.builtin "__main__.__loader__#opaque")⟩, ⟨PyData.keyHash P (Str.ofString "__spec__"), (.str (Str.ofString "__spec__") 169), .none⟩, ⟨PyData.keyHash P (Str.ofString "__annotations__"), (.str (Str.ofString "__annotations__") 170), (.ref 6)⟩, ⟨PyData.keyHash P (Str.ofString "__builtins__"), (.str (Str.ofString "__builtins__") 171), (.ref 4)⟩, ⟨PyData.keyHash P (Str.ofString "__file__"), (.str (Str.ofString "__file__") 173), (.str (Str.ofString "/claim/cut.py") 172)⟩, ⟨PyData.keyHash P (Str.ofString "__cached__"), (.str (Str.ofString "__cached__") 174), .none⟩, ⟨PyData.keyHash P (Str.ofString "_sre"), (.str (Str.ofString "_sre") 275), (.ref 12)⟩, ⟨PyData.keyHash P (Str.ofString "b1_set"), (.str (Str.ofString "b1_set") 343), (.ref 39)⟩, ⟨PyData.keyHash P (Str.ofString "in_table_b1"), (.str (Str.ofString "in_table_b1") 350), (.ref 49)⟩, ⟨PyData.keyHash P (Str.ofString "b3_exceptions"), (.str (Str.ofString "b3_exceptions") 2301), (.ref 50)⟩, ⟨PyData.keyHash P (Str.ofString "map_table_b3"), (.str (Str.ofString "map_table_b3") 2309), (.ref 95)⟩]) 14), List.toArray []⟩
noncomputable def h29_4 (P : Params) : Obj := ⟨.none, none, (.fields (List.toArray [(.int 4 0), (.int 0 0), (.ref 48), (.int 7 0), (.int 0 0), (.ref 94)])), List.toArray []⟩
noncomputable def T4 (P : Params) : BT := (.node (h0 P) (.node (h1 P) (.node (h3_4 P) (.node (h7 P) (.node (h15 P) (.node (h31 P) (.node (sub 12) .nil .nil) (.node (o95 P) .nil .nil)) (.node (h47 P) (.node (sub 28) .nil .nil) .nil)) (.node (h23 P) (.node (o39 P) (.node (sub 20) .nil .nil) .nil) (.node (sub 4) (.node (sub 36) .nil .nil) .nil))) (.node (o11 P) (.node (h19 P) (.node (h35 P) (.node (sub 16) .nil .nil) .nil) (.node (sub 0) (.node (sub 32) .nil .nil) .nil)) (.node (h27 P) (.node (o43 P) (.node (sub 24) .nil .nil) .nil) (.node (sub 8) (.node (o91 P) .nil .nil) .nil)))) (.node (h5 P) (.node (h9 P) (.node (h17 P) (.node (h33 P) (.node (sub 14) .nil .nil) .nil) (.node (o49 P) (.node (sub 30) .nil .nil) .nil)) (.node (h25 P) (.node (h41 P) (.node (sub 22) .nil .nil) .nil) (.node (sub 6) (.node (o89 P) .nil .nil) .nil))) (.node (h13 P) (.node (h21 P) (.node (h37 P) (.node (sub 18) .nil .nil) .nil) (.node (sub 2) (.node (sub 34) .nil .nil) .nil)) (.node (h29_4 P) (.node (o45 P) (.node (sub 26) .nil .nil) .nil) (.node (sub 10) (.node (h93 P) .nil .nil) .nil))))) (.node (o2 P) (.node (h4 P) (.node (h8 P) (.node (h16 P) (.node (h32 P) (.node (sub 13) .nil .nil) .nil) (.node (o48 P) (.node (sub 29) .nil .nil) .nil)) (.node (h24 P) (.node (h40 P) (.node (sub 21) .nil .nil) .nil) (.node (sub 5) (.node (sub 37) .nil .nil) .nil))) (.node (o12 P) (.node (h20 P) (.node (h36 P) (.node (sub 17) .nil .nil) .nil) (.node (sub 1) (.node (sub 33) .nil .nil) .nil)) (.node (h28 P) (.node (h44 P) (.node (sub 25) .nil .nil) .nil) (.node (sub 9) (.node (o92 P) .nil .nil) .nil)))) (.node (o6 P) (.node (h10 P) (.node (h18 P) (.node (h34 P) (.node (sub 15) .nil .nil) .nil) (.node (o50 P) (.node (sub 31) .nil .nil) .nil)) (.node (h26 P) (.node (h42 P) (.node (sub 23) .nil .nil) .nil) (.node (sub 7) (.node (h90 P) .nil .nil) .nil))) (.node (h14 P) (.node (h22 P) (.node (h38 P) (.node (sub 19) .nil .nil) .nil) (.node (sub 3) (.node (sub 35) .nil .nil) .nil)) (.node (h30 P) (.node (o46 P) (.node (sub 27) .nil .nil) .nil) (.node (sub 11) (.node (o94 P) .nil .nil) .nil))))))
noncomputable abbrev S4 (w : World) (os : OsState) : SharedT := ⟨T4 w.params, 96, { }, Array.mk [], { }, 2310, os⟩
noncomputable def h3_6 (P : Params) : Obj := ⟨(.type "dict"), none, (.dict (List.toArray [⟨PyData.keyHash P (Str.ofString "__name__"), (.str (Str.ofString "__name__") 165), (.str (Str.ofString "cpy313.smtplib") 2310)⟩, ⟨PyData.keyHash P (Str.ofString "__doc__"), (.str (Str.ofString "__doc__") 166), .none⟩, ⟨PyData.keyHash P (Str.ofString "__package__"), (.str (Str.ofString "__package__") 167), .none⟩, ⟨PyData.keyHash P (Str.ofString "__loader__"), (.str (Str.ofString "__loader__") 168), (.builtin "__main__.__loader__#opaque")⟩, ⟨PyData.keyHash P (Str.ofString "__spec__"), (.str (Str.ofString "__spec__") 169), .none⟩, ⟨PyData.keyHash P (Str.ofString "__annotations__"), (.str (Str.ofString "__annotations__") 170), (.ref 6)⟩, ⟨PyData.keyHash P (Str.ofString "__builtins__"), (.str (Str.ofString "__builtins__") 171), (.ref 4)⟩, ⟨PyData.keyHash P (Str.ofString "__file__"), (.str (Str.ofString "__file__") 173), (.str (Str.ofString "/claim/cut.py") 172)⟩, ⟨PyData.keyHash P (Str.ofString "__cached__"), (.str (Str.ofString "__cached__") 174), .none⟩, ⟨PyData.keyHash P (Str.ofString "_sre"), (.str (Str.ofString "_sre") 275), (.ref 12)⟩, ⟨PyData.keyHash P (Str.ofString "b1_set"), (.str (Str.ofString "b1_set") 343), (.ref 39)⟩, ⟨PyData.keyHash P (Str.ofString "in_table_b1"), (.str (Str.ofString "in_table_b1") 350), (.ref 49)⟩, ⟨PyData.keyHash P (Str.ofString "b3_exceptions"), (.str (Str.ofString "b3_exceptions") 2301), (.ref 50)⟩, ⟨PyData.keyHash P (Str.ofString "map_table_b3"), (.str (Str.ofString "map_table_b3") 2309), (.ref 95)⟩, ⟨PyData.keyHash P (Str.ofString "_twin_re_1"), (.str (Str.ofString "_twin_re_1") 2327), (.ref 100)⟩]) 15), List.toArray []⟩
noncomputable def T6 (P : Params) : BT := (.node (h0 P) (.node (h1 P) (.node (h3_6 P) (.node (h7 P) (.node (h15 P) (.node (h31 P) (.node (sub 12) .nil .nil) (.node (o95 P) .nil .nil)) (.node (h47 P) (.node (sub 28) .nil .nil) .nil)) (.node (h23 P) (.node (o39 P) (.node (sub 20) .nil .nil) .nil) (.node (sub 4) (.node (sub 36) .nil .nil) .nil))) (.node (o11 P) (.node (h19 P) (.node (h35 P) (.node (sub 16) .nil .nil) (.node (o99 P) .nil .nil)) (.node (sub 0) (.node (sub 32) .nil .nil) .nil)) (.node (h27 P) (.node (o43 P) (.node (sub 24) .nil .nil) .nil) (.node (sub 8) (.node (o91 P) .nil .nil) .nil)))) (.node (h5 P) (.node (h9 P) (.node (h17 P) (.node (h33 P) (.node (sub 14) .nil .nil) (.node (h97 P) .nil .nil)) (.node (o49 P) (.node (sub 30) .nil .nil) .nil)) (.node (h25 P) (.node (h41 P) (.node (sub 22) .nil .nil) .nil) (.node (sub 6) (.node (o89 P) .nil .nil) .nil))) (.node (h13 P) (.node (h21 P) (.node (h37 P) (.node (sub 18) .nil .nil) .nil) (.node (sub 2) (.node (sub 34) .nil .nil) .nil)) (.node (h29_4 P) (.node (o45 P) (.node (sub 26) .nil .nil) .nil) (.node (sub 10) (.node (h93 P) .nil .nil) .nil))))) (.node (o2 P) (.node (h4 P) (.node (h8 P) (.node (h16 P) (.node (h32 P) (.node (sub 13) .nil .nil) (.node (h96 P) .nil .nil)) (.node (o48 P) (.node (sub 29) .nil .nil) .nil)) (.node (h24 P) (.node (h40 P) (.node (sub 21) .nil .nil) .nil) (.node (sub 5) (.node (sub 37) .nil .nil) .nil))) (.node (o12 P) (.node (h20 P) (.node (h36 P) (.node (sub 17) .nil .nil) (.node (o100 P) .nil .nil)) (.node (sub 1) (.node (sub 33) .nil .nil) .nil)) (.node (h28 P) (.node (h44 P) (.node (sub 25) .nil .nil) .nil) (.node (sub 9) (.node (o92 P) .nil .nil) .nil)))) (.node (o6 P) (.node (h10 P) (.node (h18 P) (.node (h34 P) (.node (sub 15) .nil .nil) (.node (h98 P) .nil .nil)) (.node (o50 P) (.node (sub 31) .nil .nil) .nil)) (.node (h26 P) (.node (h42 P) (.node (sub 23) .nil .nil) .nil) (.node (sub 7) (.node (h90 P) .nil .nil) .nil))) (.node (h14 P) (.node (h22 P) (.node (h38 P) (.node (sub 19) .nil .nil) .nil) (.node (sub 3) (.node (sub 35) .nil .nil) .nil)) (.node (h30 P) (.node (o46 P) (.node (sub 27) .nil .nil) .nil) (.node (sub 11) (.node (o94 P) .nil .nil) .nil))))))
noncomputable abbrev S6 (w : World) (os : OsState) : SharedT := ⟨T6 w.params, 101, { }, Array.mk [], { }, 2328, os⟩
noncomputable def h3_7 (P : Params) : Obj := ⟨(.type "dict"), none, (.dict (List.toArray [⟨PyData.keyHash P (Str.ofString "__name__"), (.str (Str.ofString "__name__") 165), (.str (Str.ofString "cpy313.smtplib") 2310)⟩, ⟨PyData.keyHash P (Str.ofString "__doc__"), (.str (Str.ofString "__doc__") 166), .none⟩, ⟨PyData.keyHash P (Str.ofString "__package__"), (.str (Str.ofString "__package__") 167), .none⟩, ⟨PyData.keyHash P (Str.ofString "__loader__"), (.str (Str.ofString "__loader__") 168), (.builtin "__main__.__loader__#opaque")⟩, ⟨PyData.keyHash P (Str.ofString "__spec__"), (.str (Str.ofString "__spec__") 169), .none⟩, ⟨PyData.keyHash P (Str.ofString "__annotations__"), (.str (Str.ofString "__annotations__") 170), (.ref 6)⟩, ⟨PyData.keyHash P (Str.ofString "__builtins__"), (.str (Str.ofString "__builtins__") 171), (.ref 4)⟩, ⟨PyData.keyHash P (Str.ofString "__file__"), (.str (Str.ofString "__file__") 173), (.str (Str.ofString "/claim/cut.py") 172)⟩, ⟨PyData.keyHash P (Str.ofString "__cached__"), (.str (Str.ofString "__cached__") 174), .none⟩, ⟨PyData.keyHash P (Str.ofString "_sre"), (.str (Str.ofString "_sre") 275), (.ref 12)⟩, ⟨PyData.keyHash P (Str.ofString "b1_set"), (.str (Str.ofString "b1_set") 343), (.ref 39)⟩, ⟨PyData.keyHash P (Str.ofString "in_table_b1"), (.str (Str.ofString "in_table_b1") 350), (.ref 49)⟩, ⟨PyData.keyHash P (Str.ofString "b3_exceptions"), (.str (Str.ofString "b3_exceptions") 2301), (.ref 50)⟩, ⟨PyData.keyHash P (Str.ofString "map_table_b3"), (.str (Str.ofString "map_table_b3") 2309), (.ref 95)⟩, ⟨PyData.keyHash P (Str.ofString "_twin_re_1"), (.str (Str.ofString "_twin_re_1") 2327), (.ref 100)⟩, ⟨PyData.keyHash P (Str.ofString "_twin_re_2"), (.str (Str.ofString "_twin_re_2") 2369), (.ref 105)⟩]) 16), List.toArray []⟩
noncomputable def T7 (P : Params) : BT := (.node (h0 P) (.node (h1 P) (.node (h3_7 P) (.node (h7 P) (.node (h15 P) (.node (h31 P) (.node (sub 12) .nil .nil) (.node (o95 P) .nil .nil)) (.node (h47 P) (.node (sub 28) .nil .nil) .nil)) (.node (h23 P) (.node (o39 P) (.node (sub 20) .nil .nil) (.node (h103 P) .nil .nil)) (.node (sub 4) (.node (sub 36) .nil .nil) .nil))) (.node (o11 P) (.node (h19 P) (.node (h35 P) (.node (sub 16) .nil .nil) (.node (o99 P) .nil .nil)) (.node (sub 0) (.node (sub 32) .nil .nil) .nil)) (.node (h27 P) (.node (o43 P) (.node (sub 24) .nil .nil) .nil) (.node (sub 8) (.node (o91 P) .nil .nil) .nil)))) (.node (h5 P) (.node (h9 P) (.node (h17 P) (.node (h33 P) (.node (sub 14) .nil .nil) (.node (h97 P) .nil .nil)) (.node (o49 P) (.node (sub 30) .nil .nil) .nil)) (.node (h25 P) (.node (h41 P) (.node (sub 22) .nil .nil) (.node (o105 P) .nil .nil)) (.node (sub 6) (.node (o89 P) .nil .nil) .nil))) (.node (h13 P) (.node (h21 P) (.node (h37 P) (.node (sub 18) .nil .nil) (.node (h101 P) .nil .nil)) (.node (sub 2) (.node (sub 34) .nil .nil) .nil)) (.node (h29_4 P) (.node (o45 P) (.node (sub 26) .nil .nil) .nil) (.node (sub 10) (.node (h93 P) .nil .nil) .nil))))) (.node (o2 P) (.node (h4 P) (.node (h8 P) (.node (h16 P) (.node (h32 P) (.node (sub 13) .nil .nil) (.node (h96 P) .nil .nil)) (.node (o48 P) (.node (sub 29) .nil .nil) .nil)) (.node (h24 P) (.node (h40 P) (.node (sub 21) .nil .nil) (.node (o104 P) .nil .nil)) (.node (sub 5) (.node (sub 37) .nil .nil) .nil))) (.node (o12 P) (.node (h20 P) (.node (h36 P) (.node (sub 17) .nil .nil) (.node (o100 P) .nil .nil)) (.node (sub 1) (.node (sub 33) .nil .nil) .nil)) (.node (h28 P) (.node (h44 P) (.node (sub 25) .nil .nil) .nil) (.node (sub 9) (.node (o92 P) .nil .nil) .nil)))) (.node (o6 P) (.node (h10 P) (.node (h18 P) (.node (h34 P) (.node (sub 15) .nil .nil) (.node (h98 P) .nil .nil)) (.node (o50 P) (.node (sub 31) .nil .nil) .nil)) (.node (h26 P) (.node (h42 P) (.node (sub 23) .nil .nil) .nil) (.node (sub 7) (.node (h90 P) .nil .nil) .nil))) (.node (h14 P) (.node (h22 P) (.node (h38 P) (.node (sub 19) .nil .nil) (.node (h102 P) .nil .nil)) (.node (sub 3) (.node (sub 35) .nil .nil) .nil)) (.node (h30 P) (.node (o46 P) (.node (sub 27) .nil .nil) .nil) (.node (sub 11) (.node (o94 P) .nil .nil) .nil))))))
noncomputable abbrev S7 (w : World) (os : OsState) : SharedT := ⟨T7 w.params, 106, { }, Array.mk [], { }, 2370, os⟩
noncomputable def h3_12 (P : Params) : Obj := ⟨(.type "dict"), none, (.dict (List.toArray [⟨PyData.keyHash P (Str.ofString "__name__"), (.str (Str.ofString "__name__") 165), (.str (Str.ofString "cpy313.xml.etree.ElementTree") 2379)⟩, ⟨PyData.keyHash P (Str.ofString "__doc__"), (.str (Str.ofString "__doc__") 166), .none⟩, ⟨PyData.keyHash P (Str.ofString "__package__"), (.str (Str.ofString "__package__") 167), .none⟩, ⟨PyData.keyHash P (Str.ofString "__loader__"), (.str (Str.ofString "__loader__") 168), (.builtin "__main__.__loader__#opaque")⟩, ⟨PyData.keyHash P (Str.ofString "__spec__"), (.str (Str.ofString "__spec__") 169), .none⟩, ⟨PyData.keyHash P (Str.ofString "__annotations__"), (.str (Str.ofString "__annotations__") 170), (.ref 6)⟩, ⟨PyData.keyHash P (Str.ofString "__builtins__"), (.str (Str.ofString "__builtins__") 171), (.ref 4)⟩, ⟨PyData.keyHash P (Str.ofString "__file__"), (.str (Str.ofString "__file__") 173), (.str (Str.ofString "/claim/cut.py") 172)⟩, ⟨PyData.keyHash P (Str.ofString "__cached__"), (.str (Str.ofString "__cached__") 174), .none⟩, ⟨PyData.keyHash P (Str.ofString "_sre"), (.str (Str.ofString "_sre") 275), (.ref 12)⟩, ⟨PyData.keyHash P (Str.ofString "b1_set"), (.str (Str.ofString "b1_set") 343), (.ref 39)⟩, ⟨PyData.keyHash P (Str.ofString "in_table_b1"), (.str (Str.ofString "in_table_b1") 350), (.ref 49)⟩, ⟨PyData.keyHash P (Str.ofString "b3_exceptions"), (.str (Str.ofString "b3_exceptions") 2301), (.ref 50)⟩, ⟨PyData.keyHash P (Str.ofString "map_table_b3"), (.str (Str.ofString "map_table_b3") 2309), (.ref 95)⟩, ⟨PyData.keyHash P (Str.ofString "_twin_re_1"), (.str (Str.ofString "_twin_re_1") 2327), (.ref 100)⟩, ⟨PyData.keyHash P (Str.ofString "_twin_re_2"), (.str (Str.ofString "_twin_re_2") 2369), (.ref 105)⟩, ⟨PyData.keyHash P (Str.ofString "CRLF"), (.str (Str.ofString "CRLF") 2371), (.str (Str.mk #[13, 10]) 2370)⟩, ⟨PyData.keyHash P (Str.ofString "quotedata"), (.str (Str.ofString "quotedata") 2378), (.ref 112)⟩, ⟨PyData.keyHash P (Str.ofString "_raise_serialization_error"), (.str (Str.ofString "_raise_serialization_error") 2387), (.ref 119)⟩, ⟨PyData.keyHash P (Str.ofString "_escape_cdata"), (.str (Str.ofString "_escape_cdata") 2394), (.ref 126)⟩]) 20), List.toArray []⟩
noncomputable def h29_12 (P : Params) : Obj := ⟨.none, none, (.fields (List.toArray [(.int 4 0), (.int 0 0), (.ref 48), (.int 7 0), (.int 0 0), (.ref 94), (.int 16 0), (.int 0 0), (.ref 111), (.int 19 0), (.int 0 0), (.ref 118), (.int 21 0), (.int 0 0), (.ref 125)])), List.toArray []⟩
noncomputable def T12 (P : Params) : BT := (.node (h0 P) (.node (h1 P) (.node (h3_12 P) (.node (h7 P) (.node (h15 P) (.node (h31 P) (.node (sub 12) .nil .nil) (.node (o95 P) .nil .nil)) (.node (h47 P) (.node (sub 28) .nil .nil) (.node (o111 P) .nil .nil))) (.node (h23 P) (.node (o39 P) (.node (sub 20) .nil .nil) (.node (h103 P) .nil .nil)) (.node (sub 4) (.node (sub 36) .nil .nil) (.node (o119 P) .nil .nil)))) (.node (o11 P) (.node (h19 P) (.node (h35 P) (.node (sub 16) .nil .nil) (.node (o99 P) .nil .nil)) (.node (sub 0) (.node (sub 32) .nil .nil) (.node (o115 P) .nil .nil))) (.node (h27 P) (.node (o43 P) (.node (sub 24) .nil .nil) (.node (h107 P) .nil .nil)) (.node (sub 8) (.node (o91 P) .nil .nil) (.node (o123 P) .nil .nil))))) (.node (h5 P) (.node (h9 P) (.node (h17 P) (.node (h33 P) (.node (sub 14) .nil .nil) (.node (h97 P) .nil .nil)) (.node (o49 P) (.node (sub 30) .nil .nil) (.node (o113 P) .nil .nil))) (.node (h25 P) (.node (h41 P) (.node (sub 22) .nil .nil) (.node (o105 P) .nil .nil)) (.node (sub 6) (.node (o89 P) .nil .nil) (.node (h121 P) .nil .nil)))) (.node (h13 P) (.node (h21 P) (.node (h37 P) (.node (sub 18) .nil .nil) (.node (h101 P) .nil .nil)) (.node (sub 2) (.node (sub 34) .nil .nil) (.node (h117 P) .nil .nil))) (.node (h29_12 P) (.node (o45 P) (.node (sub 26) .nil .nil) (.node (o109 P) .nil .nil)) (.node (sub 10) (.node (h93 P) .nil .nil) (.node (o125 P) .nil .nil)))))) (.node (o2 P) (.node (h4 P) (.node (h8 P) (.node (h16 P) (.node (h32 P) (.node (sub 13) .nil .nil) (.node (h96 P) .nil .nil)) (.node (o48 P) (.node (sub 29) .nil .nil) (.node (o112 P) .nil .nil))) (.node (h24 P) (.node (h40 P) (.node (sub 21) .nil .nil) (.node (o104 P) .nil .nil)) (.node (sub 5) (.node (sub 37) .nil .nil) (.node (o120 P) .nil .nil)))) (.node (o12 P) (.node (h20 P) (.node (h36 P) (.node (sub 17) .nil .nil) (.node (o100 P) .nil .nil)) (.node (sub 1) (.node (sub 33) .nil .nil) (.node (o116 P) .nil .nil))) (.node (h28 P) (.node (h44 P) (.node (sub 25) .nil .nil) (.node (o108 P) .nil .nil)) (.node (sub 9) (.node (o92 P) .nil .nil) (.node (h124 P) .nil .nil))))) (.node (o6 P) (.node (h10 P) (.node (h18 P) (.node (h34 P) (.node (sub 15) .nil .nil) (.node (h98 P) .nil .nil)) (.node (o50 P) (.node (sub 31) .nil .nil) (.node (h114 P) .nil .nil))) (.node (h26 P) (.node (h42 P) (.node (sub 23) .nil .nil) (.node (o106 P) .nil .nil)) (.node (sub 7) (.node (h90 P) .nil .nil) (.node (o122 P) .nil .nil)))) (.node (h14 P) (.node (h22 P) (.node (h38 P) (.node (sub 19) .nil .nil) (.node (h102 P) .nil .nil)) (.node (sub 3) (.node (sub 35) .nil .nil) (.node (o118 P) .nil .nil))) (.node (h30 P) (.node (o46 P) (.node (sub 27) .nil .nil) (.node (h110 P) .nil .nil)) (.node (sub 11) (.node (o94 P) .nil .nil) (.node (o126 P) .nil .nil)))))))
noncomputable abbrev S12 (w : World) (os : OsState) : SharedT := ⟨T12 w.params, 127, { }, Array.mk [], { }, 2395, os⟩
noncomputable def h3_17 (P : Params) : Obj := ⟨(.type "dict"), none, (.dict (List.toArray [⟨PyData.keyHash P (Str.ofString "__name__"), (.str (Str.ofString "__name__") 165), (.str (Str.ofString "law_st0017_01") 2395)⟩, ⟨PyData.keyHash P (Str.ofString "__doc__"), (.str (Str.ofString "__doc__") 166), .none⟩, ⟨PyData.keyHash P (Str.ofString "__package__"), (.str (Str.ofString "__package__") 167), .none⟩, ⟨PyData.keyHash P (Str.ofString "__loader__"), (.str (Str.ofString "__loader__") 168), (.builtin "__main__.__loader__#opaque")⟩, ⟨PyData.keyHash P (Str.ofString "__spec__"), (.str (Str.ofString "__spec__") 169), .none⟩, ⟨PyData.keyHash P (Str.ofString "__annotations__"), (.str (Str.ofString "__annotations__") 170), (.ref 6)⟩, ⟨PyData.keyHash P (Str.ofString "__builtins__"), (.str (Str.ofString "__builtins__") 171), (.ref 4)⟩, ⟨PyData.keyHash P (Str.ofString "__file__"), (.str (Str.ofString "__file__") 173), (.str (Str.ofString "/claim/cut.py") 172)⟩, ⟨PyData.keyHash P (Str.ofString "__cached__"), (.str (Str.ofString "__cached__") 174), .none⟩, ⟨PyData.keyHash P (Str.ofString "_sre"), (.str (Str.ofString "_sre") 275), (.ref 12)⟩, ⟨PyData.keyHash P (Str.ofString "b1_set"), (.str (Str.ofString "b1_set") 343), (.ref 39)⟩, ⟨PyData.keyHash P (Str.ofString "in_table_b1"), (.str (Str.ofString "in_table_b1") 350), (.ref 49)⟩, ⟨PyData.keyHash P (Str.ofString "b3_exceptions"), (.str (Str.ofString "b3_exceptions") 2301), (.ref 50)⟩, ⟨PyData.keyHash P (Str.ofString "map_table_b3"), (.str (Str.ofString "map_table_b3") 2309), (.ref 95)⟩, ⟨PyData.keyHash P (Str.ofString "_twin_re_1"), (.str (Str.ofString "_twin_re_1") 2327), (.ref 100)⟩, ⟨PyData.keyHash P (Str.ofString "_twin_re_2"), (.str (Str.ofString "_twin_re_2") 2369), (.ref 105)⟩, ⟨PyData.keyHash P (Str.ofString "CRLF"), (.str (Str.ofString "CRLF") 2371), (.str (Str.mk #[13, 10]) 2370)⟩, ⟨PyData.keyHash P (Str.ofString "quotedata"), (.str (Str.ofString "quotedata") 2378), (.ref 112)⟩, ⟨PyData.keyHash P (Str.ofString "_raise_serialization_error"), (.str (Str.ofString "_raise_serialization_error") 2387), (.ref 119)⟩, ⟨PyData.keyHash P (Str.ofString "_escape_cdata"), (.str (Str.ofString "_escape_cdata") 2394), (.ref 126)⟩, ⟨PyData.keyHash P (Str.ofString "_law_nothing"), (.str (Str.ofString "_law_nothing") 2404), (.ref 133)⟩, ⟨PyData.keyHash P (Str.ofString "_law_letter"), (.str (Str.ofString "_law_letter") 2412), (.ref 140)⟩, ⟨PyData.keyHash P (Str.ofString "_law_plain"), (.str (Str.ofString "_law_plain") 2420), (.ref 147)⟩, ⟨PyData.keyHash P (Str.ofString "_law_word"), (.str (Str.ofString "_law_word") 2430), (.ref 154)⟩]) 24), List.toArray []⟩
noncomputable def h29_17 (P : Params) : Obj := ⟨.none, none, (.fields (List.toArray [(.int 4 0), (.int 0 0), (.ref 48), (.int 7 0), (.int 0 0), (.ref 94), (.int 16 0), (.int 0 0), (.ref 111), (.int 19 0), (.int 0 0), (.ref 118), (.int 21 0), (.int 0 0), (.ref 125), (.int 33 0), (.int 0 0), (.ref 132), (.int 36 0), (.int 0 0), (.ref 139), (.int 39 0), (.int 0 0), (.ref 146), (.int 43 0), (.int 0 0), (.ref 153)])), List.toArray []⟩
noncomputable def T17 (P : Params) : BT := (.node (h0 P) (.node (h1 P) (.node (h3_17 P) (.node (h7 P) (.node (h15 P) (.node (h31 P) (.node (sub 12) (.node (o127 P) .nil .nil) .nil) (.node (o95 P) .nil .nil)) (.node (h47 P) (.node (sub 28) (.node (o143 P) .nil .nil) .nil) (.node (o111 P) .nil .nil))) (.node (h23 P) (.node (o39 P) (.node (sub 20) (.node (h135 P) .nil .nil) .nil) (.node (h103 P) .nil .nil)) (.node (sub 4) (.node (sub 36) (.node (o151 P) .nil .nil) .nil) (.node (o119 P) .nil .nil)))) (.node (o11 P) (.node (h19 P) (.node (h35 P) (.node (sub 16) (.node (h131 P) .nil .nil) .nil) (.node (o99 P) .nil .nil)) (.node (sub 0) (.node (sub 32) (.node (o147 P) .nil .nil) .nil) (.node (o115 P) .nil .nil))) (.node (h27 P) (.node (o43 P) (.node (sub 24) (.node (o139 P) .nil .nil) .nil) (.node (h107 P) .nil .nil)) (.node (sub 8) (.node (o91 P) .nil .nil) (.node (o123 P) .nil .nil))))) (.node (h5 P) (.node (h9 P) (.node (h17 P) (.node (h33 P) (.node (sub 14) (.node (o129 P) .nil .nil) .nil) (.node (h97 P) .nil .nil)) (.node (o49 P) (.node (sub 30) (.node (h145 P) .nil .nil) .nil) (.node (o113 P) .nil .nil))) (.node (h25 P) (.node (h41 P) (.node (sub 22) (.node (o137 P) .nil .nil) .nil) (.node (o105 P) .nil .nil)) (.node (sub 6) (.node (o89 P) (.node (o153 P) .nil .nil) .nil) (.node (h121 P) .nil .nil)))) (.node (h13 P) (.node (h21 P) (.node (h37 P) (.node (sub 18) (.node (o133 P) .nil .nil) .nil) (.node (h101 P) .nil .nil)) (.node (sub 2) (.node (sub 34) (.node (h149 P) .nil .nil) .nil) (.node (h117 P) .nil .nil))) (.node (h29_17 P) (.node (o45 P) (.node (sub 26) (.node (o141 P) .nil .nil) .nil) (.node (o109 P) .nil .nil)) (.node (sub 10) (.node (h93 P) .nil .nil) (.node (o125 P) .nil .nil)))))) (.node (o2 P) (.node (h4 P) (.node (h8 P) (.node (h16 P) (.node (h32 P) (.node (sub 13) (.node (h128 P) .nil .nil) .nil) (.node (h96 P) .nil .nil)) (.node (o48 P) (.node (sub 29) (.node (o144 P) .nil .nil) .nil) (.node (o112 P) .nil .nil))) (.node (h24 P) (.node (h40 P) (.node (sub 21) (.node (o136 P) .nil .nil) .nil) (.node (o104 P) .nil .nil)) (.node (sub 5) (.node (sub 37) (.node (h152 P) .nil .nil) .nil) (.node (o120 P) .nil .nil)))) (.node (o12 P) (.node (h20 P) (.node (h36 P) (.node (sub 17) (.node (o132 P) .nil .nil) .nil) (.node (o100 P) .nil .nil)) (.node (sub 1) (.node (sub 33) (.node (o148 P) .nil .nil) .nil) (.node (o116 P) .nil .nil))) (.node (h28 P) (.node (h44 P) (.node (sub 25) (.node (o140 P) .nil .nil) .nil) (.node (o108 P) .nil .nil)) (.node (sub 9) (.node (o92 P) .nil .nil) (.node (h124 P) .nil .nil))))) (.node (o6 P) (.node (h10 P) (.node (h18 P) (.node (h34 P) (.node (sub 15) (.node (o130 P) .nil .nil) .nil) (.node (h98 P) .nil .nil)) (.node (o50 P) (.node (sub 31) (.node (o146 P) .nil .nil) .nil) (.node (h114 P) .nil .nil))) (.node (h26 P) (.node (h42 P) (.node (sub 23) (.node (h138 P) .nil .nil) .nil) (.node (o106 P) .nil .nil)) (.node (sub 7) (.node (h90 P) (.node (o154 P) .nil .nil) .nil) (.node (o122 P) .nil .nil)))) (.node (h14 P) (.node (h22 P) (.node (h38 P) (.node (sub 19) (.node (o134 P) .nil .nil) .nil) (.node (h102 P) .nil .nil)) (.node (sub 3) (.node (sub 35) (.node (o150 P) .nil .nil) .nil) (.node (o118 P) .nil .nil))) (.node (h30 P) (.node (o46 P) (.node (sub 27) (.node (h142 P) .nil .nil) .nil) (.node (h110 P) .nil .nil)) (.node (sub 11) (.node (o94 P) .nil .nil) (.node (o126 P) .nil .nil)))))))
noncomputable abbrev S17 (w : World) (os : OsState) : SharedT := ⟨T17 w.params, 155, { }, Array.mk [], { }, 2431, os⟩
noncomputable def H21 (P : Params) : Heap := ⟨Array.mk [(h0 P), (h1 P), (o2 P), (o3 P), (h4 P), (h5 P), (o6 P), (h7 P), (h8 P), (h9 P), (h10 P), (o11 P), (o12 P), (h13 P), (h14 P), (h15 P), (h16 P), (h17 P), (h18 P), (h19 P), (h20 P), (h21 P), (h22 P), (h23 P), (h24 P), (h25 P), (h26 P), (h27 P), (h28 P), (h29 P), (h30 P), (h31 P), (h32 P), (h33 P), (h34 P), (h35 P), (h36 P), (h37 P), (h38 P), (o39 P), (h40 P), (h41 P), (h42 P), (o43 P), (h44 P), (o45 P), (o46 P), (h47 P), (o48 P), (o49 P), (o50 P), (sub 0), (sub 1), (sub 2), (sub 3), (sub 4), (sub 5), (sub 6), (sub 7), (sub 8), (sub 9), (sub 10), (sub 11), (sub 12), (sub 13), (sub 14), (sub 15), (sub 16), (sub 17), (sub 18), (sub 19), (sub 20), (sub 21), (sub 22), (sub 23), (sub 24), (sub 25), (sub 26), (sub 27), (sub 28), (sub 29), (sub 30), (sub 31), (sub 32), (sub 33), (sub 34), (sub 35), (sub 36), (sub 37), (o89 P), (h90 P), (o91 P), (o92 P), (h93 P), (o94 P), (o95 P), (h96 P), (h97 P), (h98 P), (o99 P), (o100 P), (h101 P), (h102 P), (h103 P), (o104 P), (o105 P), (o106 P), (h107 P), (o108 P), (o109 P), (h110 P), (o111 P), (o112 P), (o113 P), (h114 P), (o115 P), (o116 P), (h117 P), (o118 P), (o119 P), (o120 P), (h121 P), (o122 P), (o123 P), (h124 P), (o125 P), (o126 P), (o127 P), (h128 P), (o129 P), (o130 P), (h131 P), (o132 P), (o133 P), (o134 P), (h135 P), (o136 P), (o137 P), (h138 P), (o139 P), (o140 P), (o141 P), (h142 P), (o143 P), (o144 P), (h145 P), (o146 P), (o147 P), (o148 P), (h149 P), (o150 P), (o151 P), (h152 P), (o153 P), (o154 P), (o155 P), (h156 P), (o157 P), (o158 P), (h159 P), (o160 P), (o161 P), (o162 P), (h163 P), (o164 P), (o165 P), (h166 P), (o167 P), (o168 P), (o169 P), (h170 P), (o171 P), (o172 P), (h173 P), (o174 P), (o175 P), (o176 P), (h177 P), (h178 P), (o179 P), (o180 P)], { }⟩
noncomputable def T21 (P : Params) : BT := (.node (h0 P) (.node (h1 P) (.node (o3 P) (.node (h7 P) (.node (h15 P) (.node (h31 P) (.node (sub 12) (.node (o127 P) .nil .nil) .nil) (.node (o95 P) (.node (h159 P) .nil .nil) .nil)) (.node (h47 P) (.node (sub 28) (.node (o143 P) .nil .nil) .nil) (.node (o111 P) (.node (o175 P) .nil .nil) .nil))) (.node (h23 P) (.node (o39 P) (.node (sub 20) (.node (h135 P) .nil .nil) .nil) (.node (h103 P) (.node (o167 P) .nil .nil) .nil)) (.node (sub 4) (.node (sub 36) (.node (o151 P) .nil .nil) .nil) (.node (o119 P) .nil .nil)))) (.node (o11 P) (.node (h19 P) (.node (h35 P) (.node (sub 16) (.node (h131 P) .nil .nil) .nil) (.node (o99 P) (.node (h163 P) .nil .nil) .nil)) (.node (sub 0) (.node (sub 32) (.node (o147 P) .nil .nil) .nil) (.node (o115 P) (.node (o179 P) .nil .nil) .nil))) (.node (h27 P) (.node (o43 P) (.node (sub 24) (.node (o139 P) .nil .nil) .nil) (.node (h107 P) (.node (o171 P) .nil .nil) .nil)) (.node (sub 8) (.node (o91 P) (.node (o155 P) .nil .nil) .nil) (.node (o123 P) .nil .nil))))) (.node (h5 P) (.node (h9 P) (.node (h17 P) (.node (h33 P) (.node (sub 14) (.node (o129 P) .nil .nil) .nil) (.node (h97 P) (.node (o161 P) .nil .nil) .nil)) (.node (o49 P) (.node (sub 30) (.node (h145 P) .nil .nil) .nil) (.node (o113 P) (.node (h177 P) .nil .nil) .nil))) (.node (h25 P) (.node (h41 P) (.node (sub 22) (.node (o137 P) .nil .nil) .nil) (.node (o105 P) (.node (o169 P) .nil .nil) .nil)) (.node (sub 6) (.node (o89 P) (.node (o153 P) .nil .nil) .nil) (.node (h121 P) .nil .nil)))) (.node (h13 P) (.node (h21 P) (.node (h37 P) (.node (sub 18) (.node (o133 P) .nil .nil) .nil) (.node (h101 P) (.node (o165 P) .nil .nil) .nil)) (.node (sub 2) (.node (sub 34) (.node (h149 P) .nil .nil) .nil) (.node (h117 P) .nil .nil))) (.node (h29 P) (.node (o45 P) (.node (sub 26) (.node (o141 P) .nil .nil) .nil) (.node (o109 P) (.node (h173 P) .nil .nil) .nil)) (.node (sub 10) (.node (h93 P) (.node (o157 P) .nil .nil) .nil) (.node (o125 P) .nil .nil)))))) (.node (o2 P) (.node (h4 P) (.node (h8 P) (.node (h16 P) (.node (h32 P) (.node (sub 13) (.node (h128 P) .nil .nil) .nil) (.node (h96 P) (.node (o160 P) .nil .nil) .nil)) (.node (o48 P) (.node (sub 29) (.node (o144 P) .nil .nil) .nil) (.node (o112 P) (.node (o176 P) .nil .nil) .nil))) (.node (h24 P) (.node (h40 P) (.node (sub 21) (.node (o136 P) .nil .nil) .nil) (.node (o104 P) (.node (o168 P) .nil .nil) .nil)) (.node (sub 5) (.node (sub 37) (.node (h152 P) .nil .nil) .nil) (.node (o120 P) .nil .nil)))) (.node (o12 P) (.node (h20 P) (.node (h36 P) (.node (sub 17) (.node (o132 P) .nil .nil) .nil) (.node (o100 P) (.node (o164 P) .nil .nil) .nil)) (.node (sub 1) (.node (sub 33) (.node (o148 P) .nil .nil) .nil) (.node (o116 P) (.node (o180 P) .nil .nil) .nil))) (.node (h28 P) (.node (h44 P) (.node (sub 25) (.node (o140 P) .nil .nil) .nil) (.node (o108 P) (.node (o172 P) .nil .nil) .nil)) (.node (sub 9) (.node (o92 P) (.node (h156 P) .nil .nil) .nil) (.node (h124 P) .nil .nil))))) (.node (o6 P) (.node (h10 P) (.node (h18 P) (.node (h34 P) (.node (sub 15) (.node (o130 P) .nil .nil) .nil) (.node (h98 P) (.node (o162 P) .nil .nil) .nil)) (.node (o50 P) (.node (sub 31) (.node (o146 P) .nil .nil) .nil) (.node (h114 P) (.node (h178 P) .nil .nil) .nil))) (.node (h26 P) (.node (h42 P) (.node (sub 23) (.node (h138 P) .nil .nil) .nil) (.node (o106 P) (.node (h170 P) .nil .nil) .nil)) (.node (sub 7) (.node (h90 P) (.node (o154 P) .nil .nil) .nil) (.node (o122 P) .nil .nil)))) (.node (h14 P) (.node (h22 P) (.node (h38 P) (.node (sub 19) (.node (o134 P) .nil .nil) .nil) (.node (h102 P) (.node (h166 P) .nil .nil) .nil)) (.node (sub 3) (.node (sub 35) (.node (o150 P) .nil .nil) .nil) (.node (o118 P) .nil .nil))) (.node (h30 P) (.node (o46 P) (.node (sub 27) (.node (h142 P) .nil .nil) .nil) (.node (h110 P) (.node (o174 P) .nil .nil) .nil)) (.node (sub 11) (.node (o94 P) (.node (o158 P) .nil .nil) .nil) (.node (o126 P) .nil .nil)))))))
noncomputable abbrev S21 (w : World) (os : OsState) : SharedT := ⟨T21 w.params, 181, { }, Array.mk [], { }, 2464, os⟩
noncomputable def env0 : Env := { scope := pw.main.scope, locals := mainNs, globals := mainNs, cells := [], code := (.ref 30), frame := some 31 }
noncomputable abbrev cE : Code := .body (behindTheImports pw) env0
noncomputable abbrev q0 : Pos := ⟨0, 0, 0, 0⟩
noncomputable abbrev p0 : Pos := ⟨2, 0, 2, 8⟩
noncomputable abbrev p1 : Pos := ⟨3, 0, 3, 6⟩
noncomputable abbrev p2 : Pos := ⟨4, 0, 5, 30⟩
noncomputable abbrev p3 : Pos := ⟨6, 0, 6, 13⟩
noncomputable abbrev p4 : Pos := ⟨7, 0, 11, 23⟩
noncomputable abbrev p5 : Pos := ⟨12, 0, 12, 8⟩
noncomputable abbrev p6 : Pos := ⟨13, 0, 13, 10⟩
noncomputable abbrev p7 : Pos := ⟨14, 0, 14, 10⟩
noncomputable abbrev p8 : Pos := ⟨15, 0, 15, 4⟩
noncomputable abbrev p9 : Pos := ⟨16, 0, 17, 59⟩
noncomputable abbrev p10 : Pos := ⟨18, 0, 18, 8⟩
noncomputable abbrev p11 : Pos := ⟨19, 0, 20, 82⟩
noncomputable abbrev p12 : Pos := ⟨21, 0, 31, 40⟩
noncomputable abbrev p13 : Pos := ⟨32, 0, 32, 8⟩
noncomputable abbrev p14 : Pos := ⟨33, 0, 35, 29⟩
noncomputable abbrev p15 : Pos := ⟨36, 0, 38, 65⟩
noncomputable abbrev p16 : Pos := ⟨39, 0, 42, 51⟩
noncomputable abbrev p17 : Pos := ⟨43, 0, 48, 28⟩
noncomputable abbrev p18 : Pos := ⟨49, 0, 57, 15⟩
noncomputable abbrev p19 : Pos := ⟨58, 0, 73, 32⟩
noncomputable abbrev p20 : Pos := ⟨74, 0, 75, 56⟩
noncomputable abbrev p21 : Pos := ⟨76, 0, 111, 66⟩
end Mine
end
/-! part Hd15 -/
section
set_option maxRecDepth 100000
set_option linter.unusedVariables false
open PySem PySem.W PyProof.Rows
namespace Mine
theorem subsOf_eq : ∀ (c t : Nat) (l : List (Int × Str)), subsOf c t l = (List.range c).map fun k => dobj (b3Ent 3 (t + 51 * k) ((l.drop (17 * k)).take 17)) 17
  | 0, t, l => rfl
  | c + 1, t, l => by
    rw [subsOf, subsOf_eq c, List.range_succ_eq_map, List.map_cons, List.map_map]
    congr 1
    refine List.map_congr_left fun k _ => ?_
    simp only [Function.comp, List.drop_drop]
    rw [show t + 51 + 51 * k = t + 51 * (k + 1) by omega, show 17 + 17 * k = 17 * (k + 1) by omega]
theorem lay_get {h : Heap} {m x : Obj} {a : Addr} (e : h.get? a = some x) : ∀ subs : List Obj, (lay h m subs).get? a = some x := by
  intro subs
  suffices ∀ (h' : Heap), h'.get? a = some x → (subs.foldl Heap.push h').get? a = some x from this _ (Heap.get?_push_of_some _ e)
  induction subs with
  | nil => intro h' e; exact e
  | cons o r ih => intro h' e; exact ih _ (Heap.get?_push_of_some _ e)
theorem lay_list (h : Heap) (m : Obj) : ∀ subs : List Obj, lay h m subs = ⟨(h.objs.toList ++ m :: subs).toArray, h.life⟩ := by
  intro subs
  suffices ∀ h' : Heap, subs.foldl Heap.push h' = ⟨(h'.objs.toList ++ subs).toArray, h'.life⟩ by
    rw [lay, this]; simp [Heap.push]
  induction subs with
  | nil => intro h'; simp
  | cons o r ih => intro h'; rw [List.foldl_cons, ih]; simp [Heap.push]
theorem sorted_nodup : ∀ {l : List (Int × Str)}, sortedK l = true → (∀ x y r, l = x :: y :: r → x.1 < y.1) ∧ (l.map (·.1)).Pairwise (· < ·)
  | [], _ => ⟨by intro x y r e; (cases e), List.Pairwise.nil⟩
  | [x], _ => ⟨by intro x y r e; (cases e), by simp⟩
  | x :: y :: r, h => by
    simp only [sortedK, Bool.and_eq_true, decide_eq_true_eq] at h
    obtain ⟨_, ih⟩ := sorted_nodup h.2
    refine ⟨by intro a b c e; cases e; exact h.1, ?_⟩
    rw [List.map_cons]
    refine List.pairwise_cons.mpr ⟨fun z hz => ?_, ih⟩
    rw [List.map_cons] at hz ih
    rcases List.mem_cons.mp hz with rfl | hz
    · exact h.1
    · exact Int.lt_trans h.1 ((List.pairwise_cons.mp ih).1 z hz)
theorem b3nodup : (b3pairs.map (·.1)).Nodup := (sorted_nodup b3sorted).2.imp fun h e => by rw [e] at h; exact absurd h (Int.lt_irrefl _)
noncomputable def ks3 : List (Option Expr) := match cell 3 with
  | .Assign _ (.Dict ks _ _) _ => ks
  | _ => []
noncomputable def vs3 : List Expr := match cell 3 with
  | .Assign _ (.Dict _ vs _) _ => vs
  | _ => []
noncomputable def np3 : Pos := match cell 3 with
  | .Assign (.Name _ p :: _) _ _ => p
  | _ => default
noncomputable def dp3 : Pos := match cell 3 with
  | .Assign _ (.Dict _ _ p) _ => p
  | _ => default
noncomputable def sp3 : Pos := match cell 3 with
  | .Assign _ _ p => p
  | _ => default
noncomputable abbrev nm3 : Str := Str.ofString "b3_exceptions"
theorem cell3 : cell 3 = .Assign [.Name nm3 np3] (.Dict ks3 vs3 dp3) sp3 := by kernel_rfl
theorem allC3 : allC ks3 vs3 = true := by kernel_rfl
theorem pairs3 : (ks3.map kInt).zip (vs3.map vStr) = b3pairs := by kernel_rfl
theorem len3 : b3pairs.length = 650 := by kernel_rfl
theorem store3 (v : Value) : storeName env0 nm3 v = nsSet mainNs nm3 v := by kernel_rfl
end Mine
end
/-! part Hd16 -/
section
set_option maxRecDepth 100000
set_option linter.unusedVariables false
open PySem PySem.W PyProof.Rows
namespace Mine
noncomputable def es2 (P : Params) : Array DictEntry := match (h3_2 P).data with
  | .dict es _ => es
  | _ => #[]
noncomputable def ep2 (P : Params) : Nat := match (h3_2 P).data with
  | .dict _ n => n
  | _ => 0
theorem o3_shape (P : Params) : h3_2 P = ⟨.type "dict", none, .dict (es2 P) (ep2 P), #[]⟩ := by kernel_rfl
theorem no_ref3 (P : Params) : aRefKeyMayBeTheName nm3 (es2 P) = false := by kernel_rfl
theorem get3 (P : Params) : (absHeap (T2 P) 50 {}).get? mainNs = some (h3_2 P) := by kernel_rfl
theorem size2 (P : Params) : (absHeap (T2 P) 50 {}).objs.size = 50 := absHeap_size ..
noncomputable abbrev put3 (w : World) : Obj → Obj := Obj.putName nm3 (if nm3.cps.isEmpty then 0 else reduceHash (w.params.strHash nm3.cps)) (.str nm3 2301) (.ref 50)
noncomputable abbrev m3 : Obj := dobj (b3Ent 3 351 (b3pairs.take 646) ++ b3Ent 2 2289 (b3pairs.drop 646)) 650
theorem put3_eq (w : World) : put3 w (h3_2 w.params) = h3_3 w.params := by kernel_rfl
theorem subs3 : subsOf 37 402 (b3pairs.drop 17) ++ [dobj (b3Ent 2 2289 (b3pairs.drop 646)) 4] = (List.range 38).map sub := by
  rw [subsOf_eq]
  kernel_rfl
theorem list3 (w : World) : ((T2 w.params).list 50 ++ m3 :: (List.range 38).map sub).modify 3 (put3 w) = (T3 w.params).list 89 := by kernel_rfl
theorem heap3 (w : World) : (lay (absHeap (T2 w.params) 50 {}) m3 (subsOf 37 402 (b3pairs.drop 17) ++ [dobj (b3Ent 2 2289 (b3pairs.drop 646)) 4])).update mainNs (put3 w) = absHeap (T3 w.params) 89 {} := by
  rw [subs3, lay_list]
  show Heap.mk (((absHeap (T2 w.params) 50 {}).objs.toList ++ m3 :: (List.range 38).map sub).toArray.modify 3 (put3 w)) {} = Heap.mk ((T3 w.params).list 89).toArray {}
  rw [← list3, List.modify_toArray]
  rfl
theorem piece3 (w : World) (os : OsState) : Goes treeTable pw w 28 (some (.ref 6)) (behindTheImports pw) env0 q0 16412 (exec (cell 3) env0) (S2 w os).abs Flow.next (S3 w os).abs := by
  have A := goes_assign (p := pw) (w := w) (n₀ := 28) (ann := some (.ref 6)) (bd := behindTheImports pw) (env := env0) (q := q0) (nm := nm3) (np := np3) (dp := dp3) (sp := sp3) allC3 pairs3 (c := 37) (e := 4) (by rw [len3]) (by omega) (by omega) (by rw [len3]; omega)
    (h := absHeap (T2 w.params) 50 {}) (g := Array.mk []) (dr := {}) (t := 351) (os := os) (by rw [size2]; rfl) (by rw [size2]; decide) b3hash b3nodup store3 (no_ref3 w.params)
    (cl := .type "dict") (di := none) (es := es2 w.params) (ep := ep2 w.params) (sl := #[]) (by rw [← o3_shape]; exact lay_get (get3 w.params) _)
  rw [len3, size2] at A
  rw [cell3]
  have E := heap3 w
  have B : (⟨(lay (absHeap (T2 w.params) 50 {}) m3 (subsOf 37 402 (b3pairs.drop 17) ++ [dobj (b3Ent 2 2289 (b3pairs.drop 646)) 4])).update mainNs (put3 w), Array.mk [], {}, 2302, os⟩ : Shared) = (S3 w os).abs := congrArg (fun h => Shared.mk h (Array.mk []) {} 2302 os) E
  rw [← B]
  exact A
end Mine
end
/-! part Ho1 -/
section
set_option maxRecDepth 100000
open PySem PySem.W PyProof.Rows
namespace Mine
set_option maxHeartbeats 0
theorem ho_open : ∀ w : World, (fencedOpening treeTable pw w 28322).map (fun s => (s.heap, s.gens, s.drawn, s.toks)) = some (Hs w.params, Array.mk [], {}, 276) := fun w => by kernel_rfl
end Mine
end
/-! part Ho2 -/
section
set_option maxRecDepth 100000
open PySem PySem.W PyProof.Rows
namespace Mine
set_option maxHeartbeats 0
theorem ho_size : ∀ w : World, ((Hs w.params).isNs mainGlobals && (Array.mk [] : Array GenState).size == 0, (Hs w.params).objs.size, (Hs w.params).nsMap mainGlobals "__annotations__") = (true, 28, some (.ref 6)) := fun w => by kernel_rfl
theorem ho_pre : ∀ (w : World) (os : OsState), topGo treeTable pw w 28 (some (.ref 6)) 12 ⟨Hs w.params, Array.mk [], {}, 276, os⟩ (topStub pw) = some (⟨Ha w.params, Array.mk [], {}, 282, os⟩, ⟨denote treeTable cE, cE, q0, [topFrame q0]⟩) := fun w os => by kernel_rfl
theorem ho_block : ∀ (w : World) (os : OsState), segRun treeTable pw w 28 (some (.ref 6)) 1 1 ⟨Ha w.params, Array.mk [], {}, 282, os⟩ (blockOf (behindTheImports pw) env0 cE q0 [topFrame q0]) = some (.next, (Sb w os).abs, cE, q0) := fun w os => by kernel_rfl
theorem ho_p0 : ∀ (w : World) (os : OsState), segRunT treeTable pw w 28 (some (.ref 6)) 1 10 (Sb w os) (piecesOf [cell 0] env0 cE q0 [topFrame q0]) = some (.next, S0 w os, cE, p0) := fun w os => by kernel_rfl
theorem ho_p2 : ∀ (w : World) (os : OsState), segRunT treeTable pw w 28 (some (.ref 6)) 1 30 (S1 w os) (piecesOf [cell 2] env0 cE p1 [topFrame q0]) = some (.next, S2 w os, cE, p2) := fun w os => by kernel_rfl
theorem ho_p4 : ∀ (w : World) (os : OsState) (p : Pos), segRunT treeTable pw w 28 (some (.ref 6)) 1 31 (S3 w os) (piecesOf [cell 4] env0 cE p [topFrame q0]) = some (.next, S4 w os, cE, p4) := fun w os p => by kernel_rfl
end Mine
end
/-! part Ho3 -/
section
set_option maxRecDepth 100000
open PySem PySem.W PyProof.Rows
namespace Mine
set_option maxHeartbeats 0
theorem ho_p5 : ∀ (w : World) (os : OsState), segRunT treeTable pw w 28 (some (.ref 6)) 1 69 (S4 w os) (piecesOf [cell 5, cell 6] env0 cE p4 [topFrame q0]) = some (.next, S6 w os, cE, p6) := fun w os => by kernel_rfl
theorem ho_p7 : ∀ (w : World) (os : OsState), segRunT treeTable pw w 28 (some (.ref 6)) 1 86 (S6 w os) (piecesOf [cell 7] env0 cE p6 [topFrame q0]) = some (.next, S7 w os, cE, p7) := fun w os => by kernel_rfl
theorem ho_p12 : ∀ (w : World) (os : OsState), segRunT treeTable pw w 28 (some (.ref 6)) 1 106 (S7 w os) (piecesOf [cell 8, cell 9, cell 10, cell 11, cell 12] env0 cE p7 [topFrame q0]) = some (.next, S12 w os, cE, p12) := fun w os => by kernel_rfl
theorem ho_p17 : ∀ (w : World) (os : OsState), segRunT treeTable pw w 28 (some (.ref 6)) 1 132 (S12 w os) (piecesOf [cell 13, cell 14, cell 15, cell 16, cell 17] env0 cE p12 [topFrame q0]) = some (.next, S17 w os, cE, p17) := fun w os => by kernel_rfl
theorem ho_p21 : ∀ (w : World) (os : OsState), segRunT treeTable pw w 28 (some (.ref 6)) 1 120 (S17 w os) (piecesOf [cell 18, cell 19, cell 20, cell 21] env0 cE p17 [topFrame q0]) = some (.next, S21 w os, cE, p21) := fun w os => by kernel_rfl
theorem ho_fin : ∀ (w : World) (os : OsState), topRun treeTable pw w 28 (some (.ref 6)) 2 (S21 w os).abs ⟨doneF .next, cE, p21, [topFrame q0]⟩ = some ⟨H21 w.params, Array.mk [], {}, 2464, os⟩ := fun w os => by kernel_rfl
end Mine
end
/-! part Ho4 -/
section
set_option maxRecDepth 100000
open PySem PySem.W PyProof.Rows
namespace Mine
set_option maxHeartbeats 0
theorem ho_p1ff (w : World) (os : OsState) : PySem.W.Fast.tw10110043849684766642 PySem.W.Fast.tw14364793385576792824 pw ((w.withFollow "special-get-raises" false).withFollow "set-order" false) 28 (some (.ref 6)) 1 1300 (S0 ((w.withFollow "special-get-raises" false).withFollow "set-order" false) os) (piecesOf [cell 1] env0 cE p0 [topFrame q0]) = some (.next, S1 ((w.withFollow "special-get-raises" false).withFollow "set-order" false) os, cE, p1) := by kernel_rfl
theorem ho_p1ft (w : World) (os : OsState) : PySem.W.Fast.tw10110043849684766642 PySem.W.Fast.tw14364793385576792824 pw ((w.withFollow "special-get-raises" true).withFollow "set-order" false) 28 (some (.ref 6)) 1 1300 (S0 ((w.withFollow "special-get-raises" true).withFollow "set-order" false) os) (piecesOf [cell 1] env0 cE p0 [topFrame q0]) = some (.next, S1 ((w.withFollow "special-get-raises" true).withFollow "set-order" false) os, cE, p1) := by kernel_rfl
theorem ho_p1tf (w : World) (os : OsState) : PySem.W.Fast.tw10110043849684766642 PySem.W.Fast.tw14364793385576792824 pw ((w.withFollow "special-get-raises" false).withFollow "set-order" true) 28 (some (.ref 6)) 1 1300 (S0 ((w.withFollow "special-get-raises" false).withFollow "set-order" true) os) (piecesOf [cell 1] env0 cE p0 [topFrame q0]) = some (.next, S1 ((w.withFollow "special-get-raises" false).withFollow "set-order" true) os, cE, p1) := by kernel_rfl
theorem ho_p1tt (w : World) (os : OsState) : PySem.W.Fast.tw10110043849684766642 PySem.W.Fast.tw14364793385576792824 pw ((w.withFollow "special-get-raises" true).withFollow "set-order" true) 28 (some (.ref 6)) 1 1300 (S0 ((w.withFollow "special-get-raises" true).withFollow "set-order" true) os) (piecesOf [cell 1] env0 cE p0 [topFrame q0]) = some (.next, S1 ((w.withFollow "special-get-raises" true).withFollow "set-order" true) os, cE, p1) := by kernel_rfl
theorem ho_p1q : ∀ (w : World) (os : OsState), PySem.W.Fast.tw10110043849684766642 PySem.W.Fast.tw14364793385576792824 pw w 28 (some (.ref 6)) 1 1300 (S0 w os) (piecesOf [cell 1] env0 cE p0 [topFrame q0]) = some (.next, S1 w os, cE, p1) := by
  refine byRow2 "set-order" (fun w => ?_) (fun w => ?_)
  · revert w
    exact byRow2 "special-get-raises" ho_p1ff ho_p1ft
  · revert w
    exact byRow2 "special-get-raises" ho_p1tf ho_p1tt
theorem ho_p1 (w : World) (os : OsState) : segRunT treeTable pw w 28 (some (.ref 6)) 1 1300 (S0 w os) (piecesOf [cell 1] env0 cE p0 [topFrame q0]) = some (.next, S1 w os, cE, p1) := by
  rw [PySem.W.Fast.te10110043849684766642, PySem.W.Fast.te14364793385576792824]
  exact ho_p1q w os
end Mine
end
/-! part Vw -/
section
open PySem PySem.W PyProof.Rows
set_option maxRecDepth 100000
namespace Mine
noncomputable def keptI : List Nat := [0, 2, 3, 4, 5, 7, 8, 9, 10, 12, 13, 15, 16, 17, 18, 19, 20, 21, 22]
noncomputable def view : Program := { pw with main := { pw.main with body := keptI.filterMap fun i => pw.main.body[i]? } }
noncomputable def loose4 : List Str := [Str.ofString "b1_set", Str.ofString "b3_exceptions", Str.ofString "_twin_re_1", Str.ofString "_twin_re_2"]
noncomputable abbrev HH : Hook := kHook K Kas Kas_eq
end Mine
end
/-! part Ho5 -/
section
set_option maxRecDepth 100000
open PySem PySem.W PyProof.Rows
namespace Mine
set_option maxHeartbeats 0
theorem look1 : ∀ (w : World) (os : OsState), staticsOk (importedModules pw.main.body) (Hs w.params) (H21 w.params) = true := fun w os => by kernel_rfl
theorem look2 : ∀ (w : World) (os : OsState), namesBound pw (H21 w.params) = true := fun w os => by kernel_rfl
theorem look3 : ∀ (w : World) (os : OsState), gensDone ⟨H21 w.params, Array.mk [], {}, 2464, os⟩ = true := fun w os => by kernel_rfl
theorem look4 : ∀ (w : World) (os : OsState), laidKept (Hs w.params) (H21 w.params) = true := fun w os => by kernel_rfl
end Mine
end
/-! part Ho6 -/
section
set_option maxRecDepth 100000
open PySem PySem.W PyProof.Rows
namespace Mine
set_option maxHeartbeats 0
theorem look6 : ∀ (w : World) (os : OsState), Hook.obs HH ⟨H21 w.params, Array.mk [], {}, 2464, os⟩ = Hook.val HH w := fun w os => by kernel_rfl
end Mine
end
/-! part Ho7 -/
section
set_option maxRecDepth 100000
set_option linter.unusedVariables false
open PySem PySem.W PyProof.Rows
namespace Mine
set_option maxHeartbeats 0
noncomputable abbrev SF (w : World) (os : OsState) : Shared := ⟨H21 w.params, Array.mk [], {}, 2464, os⟩
noncomputable abbrev XT : Shared → Bool := fun s => xlAt view [] s && recOk (RowW.records (OpenRow.toRowW PySem.Challenge.rw_st0017_01.row)) s
theorem seen1 : ∀ (w : World) (os : OsState), seen ((recsOf view).map (·.name)) (ownsOf view) [] { SF w os with gens := #[] } = expectedOf view := fun w os => by kernel_rfl
theorem seen2 : ∀ (w : World) (os : OsState), (SF w os).heap.bltView = bltViewBooted := fun w os => by kernel_rfl
noncomputable def pt1 : Flt.PatRec := ⟨Str.ofString "_twin_re_1", [14, 4, 0, 1, 1, 6, 1, 16, 46, 1], 0, 0⟩
noncomputable def pt2 : Flt.PatRec := ⟨Str.ofString "_twin_re_2", [14, 9, 4, 1, 2, 16, 10, 16, 13, 0, 7, 7, 16, 13, 16, 10, 15, 18, 5, 16, 10, 15, 13, 11, 16, 13, 5, 5, 0, 16, 10, 1, 15, 2, 0, 1], 0, 0⟩
theorem mods_eq : Flt.mathMods view = [] := by kernel_rfl
theorem drawn_eq : Flt.mathDrawn view = [] := by kernel_rfl
theorem pats_eq : Flt.patsOf view = [pt1, pt2] := by kernel_rfl
theorem pt_n1 (P : Params) : (H21 P).nsMap mainGlobals pt1.name = some (.ref 100) := by kernel_rfl
theorem pt_n2 (P : Params) : (H21 P).nsMap mainGlobals pt2.name = some (.ref 105) := by kernel_rfl
theorem pt_t1 (P : Params) : Flt.patTest (H21 P) pt1 (some (.ref 100)) = true := by kernel_rfl
theorem pt_t2 (P : Params) : Flt.patTest (H21 P) pt2 (some (.ref 105)) = true := by kernel_rfl
theorem seen3f (w : World) (os : OsState) : xlAt view [] (SF w os) = true := by
  unfold xlAt Flt.mathXt
  rw [mods_eq, drawn_eq, pats_eq]
  simp only [List.all_nil, List.all_cons, Bool.and_true, pt_n1, pt_n2, pt_t1, pt_t2]
theorem seen3a : ∀ (w : World) (os : OsState), (SF w os).heap.keysOk (looseW view loose4) ((recsOf view).map (·.name)) ((litsOf view).map (·.1)) ((clssOf view (looseW view loose4)).map (·.name)) = true := fun w os => by kernel_rfl
theorem seen3b : ∀ (w : World) (os : OsState), (SF w os).heap.accountedOkI (importedModules pw.main.body) = true := fun w os => by kernel_rfl
theorem seen3c : ∀ (w : World) (os : OsState), (SF w os).heap.isNs mainGlobals = true := fun w os => by kernel_rfl
theorem seen3d : ∀ (w : World) (os : OsState), (SF w os).heap.isNs builtinsNs = true := fun w os => by kernel_rfl
noncomputable def pd3 (x : Int × Str) : PyData × PyData := (.int x.1, .str x.2)
noncomputable def D3 : List (PyData × PyData) := b3pairs.map pd3
theorem hasKey_map : ∀ (l : List (Int × Str)) (k : Int), hasIntKey k (l.map pd3) = true → k ∈ l.map (·.1)
  | [], k, h => by cases h
  | x :: l, k, h => by
    rw [List.map_cons] at h ⊢
    have h' : ((x.1 == k) || hasIntKey k (l.map pd3)) = true := h
    rcases Bool.or_eq_true_iff.mp h' with h | h
    · exact List.mem_cons.mpr (.inl (eq_of_beq h).symm)
    · exact List.mem_cons.mpr (.inr (hasKey_map l k h))
theorem apart_map : ∀ (l : List (Int × Str)), (l.map (·.1)).Nodup → keysApartInt (l.map pd3) = true
  | [], _ => rfl
  | x :: l, h => by
    rw [List.map_cons, List.nodup_cons] at h
    show (!hasIntKey x.1 (l.map pd3) && keysApartInt (l.map pd3)) = true
    rw [apart_map l h.2]
    cases q : hasIntKey x.1 (l.map pd3) with
    | false => rfl
    | true => exact absurd (hasKey_map l x.1 q) h.1
theorem apart3 : keysApartInt D3 = true := apart_map _ b3nodup
theorem ents3 : entriesAreInt b3Entries D3 = true := by kernel_rfl
theorem tab3 : tabIntOf view nm3 = some D3 := by kernel_rfl
theorem tab3n (P : Params) : (H21 P).nsMap mainGlobals nm3 = some (.ref 50) := by kernel_rfl
theorem tab3g (P : Params) : (H21 P).get? 50 = some (o50 P) := by kernel_rfl
theorem tab3ok (P : Params) : (H21 P).tabIntOk nm3 D3 = true := by
  unfold Heap.tabIntOk
  rw [tab3n]
  dsimp only
  rw [tab3g]
  show (("dict" == "dict") && ((#[] : Array (Option Value)).size == 0) && entriesAreInt b3Entries D3 && keysApartInt D3 && ((50 : Addr) != sysModules)) = true
  rw [ents3, apart3]
  rfl
noncomputable def tbOk (h : Heap) (x : Str) : Bool := (match tupIntsOf view x with | some ns => h.tupIntsOk x ns | none => true) &&
  (match tupStrsOf view x with | some ss => h.tupStrsOk x ss | none => true) &&
  (match tabIntOf view x with | some D => h.tabIntOk x D | none => true)
theorem tb_names : valNames view = [Str.ofString "b1_set", nm3, Str.ofString "_twin_re_1", Str.ofString "_twin_re_2", Str.ofString "CRLF"] := by kernel_rfl
theorem tb_1 (P : Params) : tbOk (H21 P) (Str.ofString "b1_set") = true := by kernel_rfl
theorem tb_i3 : tupIntsOf view nm3 = none := by kernel_rfl
theorem tb_s3 : tupStrsOf view nm3 = none := by kernel_rfl
theorem tb_2 (P : Params) : tbOk (H21 P) nm3 = true := by
  unfold tbOk
  rw [tb_i3, tb_s3, tab3]
  dsimp only
  rw [tab3ok]
  rfl
theorem tb_3 (P : Params) : tbOk (H21 P) (Str.ofString "_twin_re_1") = true := by kernel_rfl
theorem tb_4 (P : Params) : tbOk (H21 P) (Str.ofString "_twin_re_2") = true := by kernel_rfl
theorem tb_5 (P : Params) : tbOk (H21 P) (Str.ofString "CRLF") = true := by kernel_rfl
theorem tb_all (h : Heap) : tablesOk view h = (valNames view).all (tbOk h) := rfl
theorem seen3e (w : World) (os : OsState) : tablesOk view (SF w os).heap = true := by
  show tablesOk view (H21 w.params) = true
  rw [tb_all, tb_names, List.all_cons, List.all_cons, List.all_cons, List.all_cons, List.all_cons, List.all_nil, tb_1, tb_2, tb_3, tb_4, tb_5]
  rfl
theorem seen3g : ∀ (w : World) (os : OsState), recOk (RowW.records (OpenRow.toRowW PySem.Challenge.rw_st0017_01.row)) (SF w os) = true := fun w os => by kernel_rfl
theorem seen3h : ∀ (w : World) (os : OsState), (if true then (SF w os).gens.size == 0 else !leftWithCleanup (SF w os).gens) = true := fun w os => by kernel_rfl
theorem seen3 (w : World) (os : OsState) : ((SF w os).heap.keysOk (looseW view loose4) ((recsOf view).map (·.name)) ((litsOf view).map (·.1)) ((clssOf view (looseW view loose4)).map (·.name)) && (SF w os).heap.accountedOkI (importedModules pw.main.body) && (SF w os).heap.isNs mainGlobals && (SF w os).heap.isNs builtinsNs && tablesOk view (SF w os).heap && XT (SF w os) && (if true then (SF w os).gens.size == 0 else !leftWithCleanup (SF w os).gens)) = true := by
  have hx : XT (SF w os) = true := by show (xlAt view [] (SF w os) && recOk _ (SF w os)) = true; rw [seen3f, seen3g]; rfl
  rw [seen3a w os, seen3b w os, seen3c w os, seen3d w os, seen3e w os, hx, seen3h w os]; rfl
theorem seen4 : ∀ (w : World) (os : OsState), tabsOk view (SF w os) = true := fun w os => by kernel_rfl
theorem seen5 : ∀ (w : World) (os : OsState), pinSeenD view (drecsOf view) (SF w os) = pinGoodD (drecsOf view) := fun w os => by kernel_rfl
theorem seen6 : ∀ (w : World) (os : OsState), plainSeenE view (looseW view loose4) (SF w os) = plainGoodE view (looseW view loose4) := fun w os => by kernel_rfl
theorem seen7 : ∀ (w : World) (os : OsState), plainSeenD view loose4 (SF w os) = plainGoodD view loose4 := fun w os => by kernel_rfl
theorem seen8 : ∀ (w : World) (os : OsState), wideSeen view (SF w os) = wideGood view := fun w os => by kernel_rfl
theorem seen9 : ∀ (w : World) (os : OsState), clsSeenW view loose4 (SF w os) = clsGoodW view loose4 := fun w os => by kernel_rfl
end Mine
end
/-! part Hd17 -/
section
set_option maxRecDepth 100000
set_option linter.unusedVariables false
open PySem PySem.W PyProof.Rows
namespace Mine
theorem cells_eq : behindTheImports pw = [cell 0, cell 1, cell 2, cell 3, cell 4, cell 5, cell 6, cell 7, cell 8, cell 9, cell 10, cell 11, cell 12, cell 13, cell 14, cell 15, cell 16, cell 17, cell 18, cell 19, cell 20, cell 21] := by kernel_rfl
noncomputable abbrev rest4 : List Stmt := [cell 4] ++ ([cell 5, cell 6] ++ ([cell 7] ++ ([cell 8, cell 9, cell 10, cell 11, cell 12] ++ ([cell 13, cell 14, cell 15, cell 16, cell 17] ++ ([cell 18, cell 19, cell 20, cell 21] ++ [])))))
theorem rest_eq : restOf (behindTheImports pw) env0 cE q0 [topFrame q0] = restOf ([cell 0] ++ ([cell 1] ++ ([cell 2] ++ (cell 3 :: rest4)))) env0 cE q0 [topFrame q0] := congrArg (fun l => restOf l env0 cE q0 [topFrame q0]) cells_eq
theorem run4 (w : World) (os : OsState) (pos : Pos) : topRun treeTable pw w 28 (some (.ref 6)) (31 + (69 + (86 + (106 + (132 + (120 + 2)))))) (S3 w os).abs (restOf rest4 env0 cE pos [topFrame q0]) = some (SF w os) := by
  refine piece_app (l := [cell 4]) (segRun_of (ho_p4 w os pos)) ?_
  refine piece_app (l := [cell 5, cell 6]) (segRun_of (ho_p5 w os)) ?_
  refine piece_app (l := [cell 7]) (segRun_of (ho_p7 w os)) ?_
  refine piece_app (l := [cell 8, cell 9, cell 10, cell 11, cell 12]) (segRun_of (ho_p12 w os)) ?_
  refine piece_app (l := [cell 13, cell 14, cell 15, cell 16, cell 17]) (segRun_of (ho_p17 w os)) ?_
  refine piece_app (l := [cell 18, cell 19, cell 20, cell 21]) (segRun_of (ho_p21 w os)) ?_
  exact piece_nil (ho_fin w os)
theorem run3 (w : World) (os : OsState) (N : Nat) (r : Shared) (h : ∀ pos, topRun treeTable pw w 28 (some (.ref 6)) N (S3 w os).abs (restOf rest4 env0 cE pos [topFrame q0]) = some r) :
    topRun treeTable pw w 28 (some (.ref 6)) (16412 + N) (S2 w os).abs (restOf (cell 3 :: rest4) env0 cE p2 [topFrame q0]) = some r := by
  obtain ⟨n, hn, pos', k⟩ := goes_top (rest := rest4) (pos := p2) (piece3 w os)
  have := topRun_mono (16412 - n) _ _ _ _ (k N r (h pos'))
  rw [show n + N + (16412 - n) = 16412 + N by omega] at this
  exact this
theorem head_run (w : World) (os : OsState) : topRun treeTable pw w 28 (some (.ref 6)) (12 + (1 + (10 + (1300 + (30 + (16412 + (31 + (69 + (86 + (106 + (132 + (120 + 2)))))))))))) ⟨Hs w.params, Array.mk [], {}, 276, os⟩ (topStub pw) = some (SF w os) := by
  refine go_top (ho_pre w os) ?_
  refine piece_block (ho_block w os) ?_
  rw [rest_eq]
  refine piece_app (l := [cell 0]) (segRun_of (ho_p0 w os)) ?_
  refine piece_app (l := [cell 1]) (segRun_of (ho_p1 w os)) ?_
  refine piece_app (l := [cell 2]) (segRun_of (ho_p2 w os)) ?_
  exact run3 w os _ _ (fun pos => run4 w os pos)
theorem head_looks (w : World) : (fun os => ((staticsOk (importedModules pw.main.body) (Hs w.params) (H21 w.params) && namesBound pw (H21 w.params) && gensDone (SF w os) && laidKept (Hs w.params) (H21 w.params)),
        openSeen view loose4 (importedModules pw.main.body) XT true (SF w os), Hook.obs HH (SF w os))) = fun _ => (true, openGood view loose4, Hook.val HH w) := by
  funext os
  rw [look1 w os, look2 w os, look3 w os, look4 w os, look6 w os]
  unfold openSeen openGood
  rw [seen1 w os, seen2 w os, seen3 w os, seen4 w os, seen5 w os, seen6 w os, seen7 w os, seen8 w os, seen9 w os]
  rfl
theorem head : LeftO pw view loose4 XT (Hook.obs HH) (Hook.val HH) 28322 true :=
  LeftO.of_pieces (H₀ := Hs) (H₁ := H21) ho_open ho_size head_run (by decide) head_looks
end Mine
end
/-! part Hd18 -/
section
set_option maxRecDepth 100000
set_option linter.unusedVariables false
open PySem PySem.W PyProof.Rows
namespace Mine
theorem prog_eq : RowW.prog (OpenRow.toRowW PySem.Challenge.rw_st0017_01.row) = pw := by kernel_rfl
theorem head_g : LeftO (RowW.prog (OpenRow.toRowW PySem.Challenge.rw_st0017_01.row)) view loose4 (fun s => xlAt view [] s && recOk (RowW.records (OpenRow.toRowW PySem.Challenge.rw_st0017_01.row)) s) (Hook.obs HH) (Hook.val HH) 28322 true := by
  rw [prog_eq]
  exact head
end Mine
end
/-! part Dev3 -/
open PySem PySem.W PyProof.Rows
set_option maxRecDepth 100000
open Mine
set_option maxHeartbeats 8000000 in
theorem PySem.Challenge.cw_st0017_01_holds : PySem.Challenge.rw_st0017_01.Holds := by
  w_on
  o_law
  refine PySem.W.holds_open (q := view) (loose := loose4) (Xt := fun s => xlAt view [] s && recOk (RowW.records (OpenRow.toRowW PySem.Challenge.rw_st0017_01.row)) s) (XP := XL view []) (Yf := Hook.obs HH) (Ya := Hook.val HH) (YP := Hook.says HH) (N := 28322) ?hl (Hook.of HH) (Hook.keeps HH) (fun s e => xl_of s (Bool.and_eq_true_iff.mp e).1) XL.keeps (by rfl) (by rfl) (by rfl) (fun s e => recFacts_of (Bool.and_eq_true_iff.mp e).2) (by rfl) (by first | assumption | decide +kernel) (by decide +kernel) ⟨rfl, rfl, rfl, rfl, rfl, by decide +kernel⟩ ?hw ?hc
  (case hl => exact head_g)
  (case hw => w_witness2)
  w_strict
    k_go0
  refine law_goal (by assumption) (by assumption) (by assumption) (by assumption) (by assumption) (by assumption) (by kernel_rfl) rfl (caller_room _) (caller_units _) (by kernel_rfl) (by kernel_rfl) (by kernel_rfl) ?h2
  intro h' tk g
  refine ⟨.inl ⟨.bool true, .bool true, [], rfl, raisesW_false (by wrow_none_raised), .bool true, ?post, fun _ => ⟨List.nodup_nil, fun a h => (nomatch h)⟩⟩, fun b o e => g b o e, rfl, by assumption⟩
  kernel_rfl

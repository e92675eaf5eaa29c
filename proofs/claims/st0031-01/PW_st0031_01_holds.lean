import PyProof.Rows.All
import Wide.All
import OpenK.AllK
import Wide.FinOn
import Lean
import PySem.Challenge.RW_st0031_01
set_option Elab.async false
set_option maxRecDepth 100000
namespace Mine
open PySem PySem.W PyProof.Rows
noncomputable section

noncomputable abbrev pw : Program := PySem.Challenge.pw_st0031_01
noncomputable def fA (i : Nat) : Arguments := match pw.main.body[i]? with | some (.FunctionDef _ a _ _ _ _ _ _ _ _) => a | _ => ⟨[], [], none, [], [], none, []⟩
noncomputable def fB (i : Nat) : List Stmt := match pw.main.body[i]? with | some (.FunctionDef _ _ b _ _ _ _ _ _ _) => b | _ => []
noncomputable def fS (i : Nat) : Scope := match pw.main.body[i]? with | some (.FunctionDef _ _ _ _ _ _ s _ _ _) => s | _ => default
noncomputable def E (P : Params) (x : Str) (t : Nat) (v : Value) : DictEntry := ⟨PyData.keyHash P x, .str x t, v⟩
noncomputable def o0 (P : Params) : Obj := PySem.W.boot_o_0 P
noncomputable def o1 (P : Params) : Obj := ⟨.type "dict", none, .dict [E P "builtins" 162 (.ref 4),
    E P "__main__" 163 (.ref 5),
    E P "_sre" 244 (.ref 12)].toArray 3, #[]⟩
noncomputable def o2 (P : Params) : Obj := ⟨.none, none, .dict [E P "\x69mport.loaded._sre" 183 (.bool true),
    E P "class._frozen_importlib.BuiltinImporter" 185 (.ref 14),
    E P "watched.\x69mport" 206 (.ref 18),
    E P "class._frozen_importlib.ModuleSpec" 216 (.ref 22),
    E P "sys.modules.booked-epoch" 245 (.int 3 0),
    E P "\x69mport.later-laid._sre" 270 (.bool true),
    E P "watched.library" 272 (.ref 27),
    E P "watched.library-objects" 0 (.str (Str.mk #[12]) 0),
    E P "watched.library-deep._sre" 273 (.str (Str.mk #[4, 0, 0, 11, 4, 0, 0, 11, 4, 0, 0, 3, 4, 0, 0, 11, 8, 4, 100, 105, 99, 116, 2]) 0)].toArray 9, #[]⟩
noncomputable def o3s (P : Params) : Obj := ⟨.type "dict", none, .dict [E P "__name__" 165 (.str (Str.ofString "__main__") 164),
    E P "__doc__" 166 (.none),
    E P "__package__" 167 (.none),
    E P "__loader__" 168 (.builtin "__main__.__loader__#opaque"),
    E P "__spec__" 169 (.none),
    E P "__annotations__" 170 (.ref 6),
    E P "__builtins__" 171 (.ref 4),
    E P "__file__" 173 (.str (Str.ofString "/claim/cut.py") 172),
    E P "__cached__" 174 (.none),
    E P "_sre" 275 (.ref 12)].toArray 10, #[]⟩
noncomputable def o3c (P : Params) : Obj := ⟨.type "dict", none, .dict [E P "__name__" 165 (.str (Str.ofString "cpy313.stringprep") 395),
    E P "__doc__" 166 (.none),
    E P "__package__" 167 (.none),
    E P "__loader__" 168 (.builtin "__main__.__loader__#opaque"),
    E P "__spec__" 169 (.none),
    E P "__annotations__" 170 (.ref 6),
    E P "__builtins__" 171 (.ref 4),
    E P "__file__" 173 (.str (Str.ofString "/claim/cut.py") 172),
    E P "__cached__" 174 (.none),
    E P "_sre" 275 (.ref 12),
    E P "_raise_serialization_error" 290 (.ref 38),
    E P "_escape_cdata" 297 (.ref 45),
    E P "_escape_attrib" 304 (.ref 52),
    E P "_escape_attrib_html" 311 (.ref 59),
    E P "_escape_cdata_c14n" 318 (.ref 66),
    E P "_escape_attrib_c14n" 325 (.ref 73),
    E P "_twin_re_1" 343 (.ref 78),
    E P "_twin_re_2" 385 (.ref 83),
    E P "CRLF" 387 (.str (Str.mk #[13, 10]) 386),
    E P "quotedata" 394 (.ref 90)].toArray 20, #[]⟩
noncomputable def o3d (P : Params) : Obj := ⟨.type "dict", none, .dict [E P "__name__" 165 (.str (Str.ofString "cpy313.stringprep") 395),
    E P "__doc__" 166 (.none),
    E P "__package__" 167 (.none),
    E P "__loader__" 168 (.builtin "__main__.__loader__#opaque"),
    E P "__spec__" 169 (.none),
    E P "__annotations__" 170 (.ref 6),
    E P "__builtins__" 171 (.ref 4),
    E P "__file__" 173 (.str (Str.ofString "/claim/cut.py") 172),
    E P "__cached__" 174 (.none),
    E P "_sre" 275 (.ref 12),
    E P "_raise_serialization_error" 290 (.ref 38),
    E P "_escape_cdata" 297 (.ref 45),
    E P "_escape_attrib" 304 (.ref 52),
    E P "_escape_attrib_html" 311 (.ref 59),
    E P "_escape_cdata_c14n" 318 (.ref 66),
    E P "_escape_attrib_c14n" 325 (.ref 73),
    E P "_twin_re_1" 343 (.ref 78),
    E P "_twin_re_2" 385 (.ref 83),
    E P "CRLF" 387 (.str (Str.mk #[13, 10]) 386),
    E P "quotedata" 394 (.ref 90),
    E P "b1_set" 456 (.ref 98)].toArray 21, #[]⟩
noncomputable def o3e (P : Params) : Obj := ⟨.type "dict", none, .dict [E P "__name__" 165 (.str (Str.ofString "cpy313.stringprep") 395),
    E P "__doc__" 166 (.none),
    E P "__package__" 167 (.none),
    E P "__loader__" 168 (.builtin "__main__.__loader__#opaque"),
    E P "__spec__" 169 (.none),
    E P "__annotations__" 170 (.ref 6),
    E P "__builtins__" 171 (.ref 4),
    E P "__file__" 173 (.str (Str.ofString "/claim/cut.py") 172),
    E P "__cached__" 174 (.none),
    E P "_sre" 275 (.ref 12),
    E P "_raise_serialization_error" 290 (.ref 38),
    E P "_escape_cdata" 297 (.ref 45),
    E P "_escape_attrib" 304 (.ref 52),
    E P "_escape_attrib_html" 311 (.ref 59),
    E P "_escape_cdata_c14n" 318 (.ref 66),
    E P "_escape_attrib_c14n" 325 (.ref 73),
    E P "_twin_re_1" 343 (.ref 78),
    E P "_twin_re_2" 385 (.ref 83),
    E P "CRLF" 387 (.str (Str.mk #[13, 10]) 386),
    E P "quotedata" 394 (.ref 90),
    E P "b1_set" 456 (.ref 98),
    E P "in_table_b1" 463 (.ref 108)].toArray 22, #[]⟩
noncomputable def o3f (P : Params) : Obj := ⟨.type "dict", none, .dict [E P "__name__" 165 (.str (Str.ofString "cpy313.stringprep") 395),
    E P "__doc__" 166 (.none),
    E P "__package__" 167 (.none),
    E P "__loader__" 168 (.builtin "__main__.__loader__#opaque"),
    E P "__spec__" 169 (.none),
    E P "__annotations__" 170 (.ref 6),
    E P "__builtins__" 171 (.ref 4),
    E P "__file__" 173 (.str (Str.ofString "/claim/cut.py") 172),
    E P "__cached__" 174 (.none),
    E P "_sre" 275 (.ref 12),
    E P "_raise_serialization_error" 290 (.ref 38),
    E P "_escape_cdata" 297 (.ref 45),
    E P "_escape_attrib" 304 (.ref 52),
    E P "_escape_attrib_html" 311 (.ref 59),
    E P "_escape_cdata_c14n" 318 (.ref 66),
    E P "_escape_attrib_c14n" 325 (.ref 73),
    E P "_twin_re_1" 343 (.ref 78),
    E P "_twin_re_2" 385 (.ref 83),
    E P "CRLF" 387 (.str (Str.mk #[13, 10]) 386),
    E P "quotedata" 394 (.ref 90),
    E P "b1_set" 456 (.ref 98),
    E P "in_table_b1" 463 (.ref 108),
    E P "b3_exceptions" 2414 (.ref 109)].toArray 23, #[]⟩
noncomputable def o3 (P : Params) : Obj := ⟨.type "dict", none, .dict [E P "__name__" 165 (.str (Str.ofString "law_st0031_01") 2423),
    E P "__doc__" 166 (.none),
    E P "__package__" 167 (.none),
    E P "__loader__" 168 (.builtin "__main__.__loader__#opaque"),
    E P "__spec__" 169 (.none),
    E P "__annotations__" 170 (.ref 6),
    E P "__builtins__" 171 (.ref 4),
    E P "__file__" 173 (.str (Str.ofString "/claim/cut.py") 172),
    E P "__cached__" 174 (.none),
    E P "_sre" 275 (.ref 12),
    E P "_raise_serialization_error" 290 (.ref 38),
    E P "_escape_cdata" 297 (.ref 45),
    E P "_escape_attrib" 304 (.ref 52),
    E P "_escape_attrib_html" 311 (.ref 59),
    E P "_escape_cdata_c14n" 318 (.ref 66),
    E P "_escape_attrib_c14n" 325 (.ref 73),
    E P "_twin_re_1" 343 (.ref 78),
    E P "_twin_re_2" 385 (.ref 83),
    E P "CRLF" 387 (.str (Str.mk #[13, 10]) 386),
    E P "quotedata" 394 (.ref 90),
    E P "b1_set" 456 (.ref 98),
    E P "in_table_b1" 463 (.ref 108),
    E P "b3_exceptions" 2414 (.ref 109),
    E P "map_table_b3" 2422 (.ref 154),
    E P "_law_nothing" 2432 (.ref 161),
    E P "_law_letter" 2440 (.ref 168),
    E P "_law_plain" 2448 (.ref 175),
    E P "_law_word" 2458 (.ref 182),
    E P "_law_prepared" 2468 (.ref 189),
    E P "_law_sign" 2477 (.ref 196),
    E P "_law_write" 2485 (.ref 203),
    E P "_law_name" 2494 (.ref 210),
    E P "_law_due" 2513 (.ref 217),
    E P "law" 2519 (.ref 222)].toArray 34, #[]⟩
noncomputable def o4 (_ : Params) : Obj := ⟨.type "module", (some 0), .plain, #[]⟩
noncomputable def o5 (_ : Params) : Obj := ⟨.type "module", (some 3), .plain, #[]⟩
noncomputable def o6 (_ : Params) : Obj := ⟨.type "dict", none, .dict [].toArray 0, #[]⟩
noncomputable def o7 (_ : Params) : Obj := ⟨.type "tuple", none, .seq [].toArray 0, #[]⟩
noncomputable def o8 (_ : Params) : Obj := ⟨.none, none, .fields [].toArray, #[]⟩
noncomputable def o9 (_ : Params) : Obj := ⟨.type "code", none, .fields [.str (Str.ofString "<module>") 176, .str (Str.ofString "<module>") 177, .str (Str.ofString "/claim/cut.py") 178, .int 1 0, .int 0 0, .int 0 0, .int 0 0, .int 0 0, .ref 7, .bool false, .int 175 0, .ref 8, .none, .none, .none, .none, .int 179 0, .int 1 0, .str (Str.ofString "/claim/cut.py") 180].toArray, #[]⟩
noncomputable def o10 (_ : Params) : Obj := ⟨.type "frame", none, .plain, #[some (.ref 9), some (.ref 3), some (.ref 3), none, some (.str (Str.ofString "__main__") 164), none, some (.ref 0)]⟩
noncomputable def o11 (P : Params) : Obj := ⟨.type "dict", none, .dict [E P "__name__" 247 (.str (Str.ofString "_sre") 246),
    E P "__doc__" 248 (.none),
    E P "__package__" 250 (.str (Str.ofString "") 249),
    E P "__loader__" 251 (.builtin "off-the-table:_sre.__loader__:shared#opaque"),
    E P "__spec__" 252 (.builtin "off-the-table:_sre.__spec__:shared#opaque"),
    E P "compile" 253 (.builtin "_sre.compile"),
    E P "template" 254 (.builtin "off-the-table:_sre.template:shared#opaque"),
    E P "getcodesize" 255 (.builtin "off-the-table:_sre.getcodesize:shared#opaque"),
    E P "ascii_iscased" 256 (.builtin "off-the-table:_sre.ascii_iscased:shared#opaque"),
    E P "unicode_iscased" 257 (.builtin "off-the-table:_sre.unicode_iscased:shared#opaque"),
    E P "ascii_tolower" 258 (.builtin "off-the-table:_sre.ascii_tolower:shared#opaque"),
    E P "unicode_tolower" 259 (.builtin "off-the-table:_sre.unicode_tolower:shared#opaque"),
    E P "MAGIC" 261 (.int 20230612 260),
    E P "CODESIZE" 263 (.int 4 262),
    E P "MAXREPEAT" 265 (.int 4294967295 264),
    E P "MAXGROUPS" 267 (.int 1073741823 266),
    E P "copyright" 269 (.str (Str.ofString " SRE 2.2.2 Copyright (c) 1997-2002 by Secret Labs AB ") 268)].toArray 17, #[]⟩
noncomputable def o12 (_ : Params) : Obj := ⟨.type "module", (some 11), .plain, #[]⟩
noncomputable def o13 (P : Params) : Obj := ⟨.type "dict", none, .dict [E P "__module__" 189 (.str (Str.ofString "_frozen_importlib") 186),
    E P "__firstlineno__" 190 (.int 971 187),
    E P "__doc__" 191 (.builtin "_frozen_importlib.BuiltinImporter.__doc__:str#opaque"),
    E P "_ORIGIN" 192 (.str (Str.ofString "built-in") 188),
    E P "find_spec" 193 (.builtin "_frozen_importlib.BuiltinImporter.find_spec#opaque"),
    E P "create_module" 194 (.builtin "_frozen_importlib.BuiltinImporter.create_module#opaque"),
    E P "exec_module" 195 (.builtin "_frozen_importlib.BuiltinImporter.exec_module#opaque"),
    E P "get_code" 196 (.builtin "_frozen_importlib.BuiltinImporter.get_code#opaque"),
    E P "get_source" 197 (.builtin "_frozen_importlib.BuiltinImporter.get_source#opaque"),
    E P "is_package" 198 (.builtin "_frozen_importlib.BuiltinImporter.is_package#opaque"),
    E P "load_module" 199 (.builtin "_frozen_importlib.BuiltinImporter.load_module#opaque"),
    E P "__static_attributes__" 200 (.ref 15),
    E P "__dict__" 202 (.ref 16),
    E P "__weakref__" 204 (.ref 17)].toArray 14, #[]⟩
noncomputable def o14 (_ : Params) : Obj := ⟨.type "type", none, .cls ⟨(Str.ofString "BuiltinImporter"), [.type "object"], [.ref 14, .type "object"], 13, (Str.ofString "BuiltinImporter"), true, [], [], false, none, false⟩, #[]⟩
noncomputable def o15 (_ : Params) : Obj := ⟨.type "tuple", none, .seq [].toArray 0, #[]⟩
noncomputable def o16 (_ : Params) : Obj := ⟨.type "getset_descriptor", none, .fields [.str (Str.ofString "__dict__") 201, .ref 14, .builtin "function.__dict__", .builtin "function.__dict__#set"].toArray, #[]⟩
noncomputable def o17 (_ : Params) : Obj := ⟨.type "getset_descriptor", none, .fields [.str (Str.ofString "__weakref__") 203, .ref 14, .builtin "ExceptionGroup.__weakref__", .none].toArray, #[]⟩
noncomputable def o18 (_ : Params) : Obj := ⟨.none, none, .seq [.int 13 0, .str (Str.mk #[6, 189, 10, 95, 95, 109, 111, 100, 117, 108, 101, 95, 95, 6, 186, 17, 95, 102, 114, 111, 122, 101, 110, 95, 105, 109, 112, 111, 114, 116, 108, 105, 98, 6, 190, 15, 95, 95, 102, 105, 114, 115, 116, 108, 105, 110, 101, 110, 111, 95, 95, 4, 187, 0, 971, 6, 191, 7, 95, 95, 100, 111, 99, 95, 95, 9, 52, 95, 102, 114, 111, 122, 101, 110, 95, 105, 109, 112, 111, 114, 116, 108, 105, 98, 46, 66, 117, 105, 108, 116, 105, 110, 73, 109, 112, 111, 114, 116, 101, 114, 46, 95, 95, 100, 111, 99, 95, 95, 58, 115, 116, 114, 35, 111, 112, 97, 113, 117, 101, 6, 192, 7, 95, 79, 82, 73, 71, 73, 78, 6, 188, 8, 98, 117, 105, 108, 116, 45, 105, 110, 6, 193, 9, 102, 105, 110, 100, 95, 115, 112, 101, 99, 9, 50, 95, 102, 114, 111, 122, 101, 110, 95, 105, 109, 112, 111, 114, 116, 108, 105, 98, 46, 66, 117, 105, 108, 116, 105, 110, 73, 109, 112, 111, 114, 116, 101, 114, 46, 102, 105, 110, 100, 95, 115, 112, 101, 99, 35, 111, 112, 97, 113, 117, 101, 6, 194, 13, 99, 114, 101, 97, 116, 101, 95, 109, 111, 100, 117, 108, 101, 9, 54, 95, 102, 114, 111, 122, 101, 110, 95, 105, 109, 112, 111, 114, 116, 108, 105, 98, 46, 66, 117, 105, 108, 116, 105, 110, 73, 109, 112, 111, 114, 116, 101, 114, 46, 99, 114, 101, 97, 116, 101, 95, 109, 111, 100, 117, 108, 101, 35, 111, 112, 97, 113, 117, 101, 6, 195, 11, 101, 120, 101, 99, 95, 109, 111, 100, 117, 108, 101, 9, 52, 95, 102, 114, 111, 122, 101, 110, 95, 105, 109, 112, 111, 114, 116, 108, 105, 98, 46, 66, 117, 105, 108, 116, 105, 110, 73, 109, 112, 111, 114, 116, 101, 114, 46, 101, 120, 101, 99, 95, 109, 111, 100, 117, 108, 101, 35, 111, 112, 97, 113, 117, 101, 6, 196, 8, 103, 101, 116, 95, 99, 111, 100, 101, 9, 49, 95, 102, 114, 111, 122, 101, 110, 95, 105, 109, 112, 111, 114, 116, 108, 105, 98, 46, 66, 117, 105, 108, 116, 105, 110, 73, 109, 112, 111, 114, 116, 101, 114, 46, 103, 101, 116, 95, 99, 111, 100, 101, 35, 111, 112, 97, 113, 117, 101, 6, 197, 10, 103, 101, 116, 95, 115, 111, 117, 114, 99, 101, 9, 51, 95, 102, 114, 111, 122, 101, 110, 95, 105, 109, 112, 111, 114, 116, 108, 105, 98, 46, 66, 117, 105, 108, 116, 105, 110, 73, 109, 112, 111, 114, 116, 101, 114, 46, 103, 101, 116, 95, 115, 111, 117, 114, 99, 101, 35, 111, 112, 97, 113, 117, 101, 6, 198, 10, 105, 115, 95, 112, 97, 99, 107, 97, 103, 101, 9, 51, 95, 102, 114, 111, 122, 101, 110, 95, 105, 109, 112, 111, 114, 116, 108, 105, 98, 46, 66, 117, 105, 108, 116, 105, 110, 73, 109, 112, 111, 114, 116, 101, 114, 46, 105, 115, 95, 112, 97, 99, 107, 97, 103, 101, 35, 111, 112, 97, 113, 117, 101, 6, 199, 11, 108, 111, 97, 100, 95, 109, 111, 100, 117, 108, 101, 9, 52, 95, 102, 114, 111, 122, 101, 110, 95, 105, 109, 112, 111, 114, 116, 108, 105, 98, 46, 66, 117, 105, 108, 116, 105, 110, 73, 109, 112, 111, 114, 116, 101, 114, 46, 108, 111, 97, 100, 95, 109, 111, 100, 117, 108, 101, 35, 111, 112, 97, 113, 117, 101, 6, 200, 21, 95, 95, 115, 116, 97, 116, 105, 99, 95, 97, 116, 116, 114, 105, 98, 117, 116, 101, 115, 95, 95, 4, 0, 0, 15, 6, 202, 8, 95, 95, 100, 105, 99, 116, 95, 95, 4, 0, 0, 16, 6, 204, 11, 95, 95, 119, 101, 97, 107, 114, 101, 102, 95, 95, 4, 0, 0, 17]) 0, .bool true, .bool true, .str (Str.ofString "") 205, .int 21 0, .str (Str.mk #[6, 227, 10, 95, 95, 109, 111, 100, 117, 108, 101, 95, 95, 6, 217, 17, 95, 102, 114, 111, 122, 101, 110, 95, 105, 109, 112, 111, 114, 116, 108, 105, 98, 6, 228, 15, 95, 95, 102, 105, 114, 115, 116, 108, 105, 110, 101, 110, 111, 95, 95, 4, 218, 0, 562, 6, 229, 7, 95, 95, 100, 111, 99, 95, 95, 9, 47, 95, 102, 114, 111, 122, 101, 110, 95, 105, 109, 112, 111, 114, 116, 108, 105, 98, 46, 77, 111, 100, 117, 108, 101, 83, 112, 101, 99, 46, 95, 95, 100, 111, 99, 95, 95, 58, 115, 116, 114, 35, 111, 112, 97, 113, 117, 101, 6, 230, 8, 95, 95, 105, 110, 105, 116, 95, 95, 9, 44, 95, 102, 114, 111, 122, 101, 110, 95, 105, 109, 112, 111, 114, 116, 108, 105, 98, 46, 77, 111, 100, 117, 108, 101, 83, 112, 101, 99, 46, 95, 95, 105, 110, 105, 116, 95, 95, 35, 111, 112, 97, 113, 117, 101, 6, 231, 8, 95, 95, 114, 101, 112, 114, 95, 95, 9, 44, 95, 102, 114, 111, 122, 101, 110, 95, 105, 109, 112, 111, 114, 116, 108, 105, 98, 46, 77, 111, 100, 117, 108, 101, 83, 112, 101, 99, 46, 95, 95, 114, 101, 112, 114, 95, 95, 35, 111, 112, 97, 113, 117, 101, 6, 232, 6, 95, 95, 101, 113, 95, 95, 9, 42, 95, 102, 114, 111, 122, 101, 110, 95, 105, 109, 112, 111, 114, 116, 108, 105, 98, 46, 77, 111, 100, 117, 108, 101, 83, 112, 101, 99, 46, 95, 95, 101, 113, 95, 95, 35, 111, 112, 97, 113, 117, 101, 6, 233, 6, 99, 97, 99, 104, 101, 100, 9, 42, 95, 102, 114, 111, 122, 101, 110, 95, 105, 109, 112, 111, 114, 116, 108, 105, 98, 46, 77, 111, 100, 117, 108, 101, 83, 112, 101, 99, 46, 99, 97, 99, 104, 101, 100, 35, 111, 112, 97, 113, 117, 101, 6, 234, 6, 112, 97, 114, 101, 110, 116, 9, 42, 95, 102, 114, 111, 122, 101, 110, 95, 105, 109, 112, 111, 114, 116, 108, 105, 98, 46, 77, 111, 100, 117, 108, 101, 83, 112, 101, 99, 46, 112, 97, 114, 101, 110, 116, 35, 111, 112, 97, 113, 117, 101, 6, 235, 12, 104, 97, 115, 95, 108, 111, 99, 97, 116, 105, 111, 110, 9, 48, 95, 102, 114, 111, 122, 101, 110, 95, 105, 109, 112, 111, 114, 116, 108, 105, 98, 46, 77, 111, 100, 117, 108, 101, 83, 112, 101, 99, 46, 104, 97, 115, 95, 108, 111, 99, 97, 116, 105, 111, 110, 35, 111, 112, 97, 113, 117, 101, 6, 236, 21, 95, 95, 115, 116, 97, 116, 105, 99, 95, 97, 116, 116, 114, 105, 98, 117, 116, 101, 115, 95, 95, 4, 0, 0, 23, 6, 238, 8, 95, 95, 100, 105, 99, 116, 95, 95, 4, 0, 0, 24, 6, 240, 11, 95, 95, 119, 101, 97, 107, 114, 101, 102, 95, 95, 4, 0, 0, 25, 6, 241, 8, 95, 95, 104, 97, 115, 104, 95, 95, 0]) 0, .bool true, .bool true, .str (Str.ofString "") 242].toArray 1, #[]⟩
noncomputable def o19 (_ : Params) : Obj := ⟨.type "list", none, .seq [].toArray 0, #[]⟩
noncomputable def o20 (P : Params) : Obj := ⟨.type "dict", none, .dict [E P "name" 208 (.str (Str.ofString "_sre") 207),
    E P "loader" 209 (.ref 14),
    E P "origin" 210 (.str (Str.ofString "built-in") 184),
    E P "loader_state" 211 (.none),
    E P "submodule_search_locations" 212 (.none),
    E P "_uninitialized_submodules" 213 (.ref 19),
    E P "_set_fileattr" 214 (.bool false),
    E P "_cached" 215 (.none),
    E P "_initializing" 243 (.bool false)].toArray 9, #[]⟩
noncomputable def o21 (P : Params) : Obj := ⟨.type "dict", none, .dict [E P "__module__" 227 (.str (Str.ofString "_frozen_importlib") 217),
    E P "__firstlineno__" 228 (.int 562 218),
    E P "__doc__" 229 (.builtin "_frozen_importlib.ModuleSpec.__doc__:str#opaque"),
    E P "__init__" 230 (.builtin "_frozen_importlib.ModuleSpec.__init__#opaque"),
    E P "__repr__" 231 (.builtin "_frozen_importlib.ModuleSpec.__repr__#opaque"),
    E P "__eq__" 232 (.builtin "_frozen_importlib.ModuleSpec.__eq__#opaque"),
    E P "cached" 233 (.builtin "_frozen_importlib.ModuleSpec.cached#opaque"),
    E P "parent" 234 (.builtin "_frozen_importlib.ModuleSpec.parent#opaque"),
    E P "has_location" 235 (.builtin "_frozen_importlib.ModuleSpec.has_location#opaque"),
    E P "__static_attributes__" 236 (.ref 23),
    E P "__dict__" 238 (.ref 24),
    E P "__weakref__" 240 (.ref 25),
    E P "__hash__" 241 (.none)].toArray 13, #[]⟩
noncomputable def o22 (_ : Params) : Obj := ⟨.type "type", none, .cls ⟨(Str.ofString "ModuleSpec"), [.type "object"], [.ref 22, .type "object"], 21, (Str.ofString "ModuleSpec"), true, [], [], false, none, false⟩, #[]⟩
noncomputable def o23 (_ : Params) : Obj := ⟨.type "tuple", none, .seq [.str (Str.ofString "_cached") 219, .str (Str.ofString "_set_fileattr") 220, .str (Str.ofString "_uninitialized_submodules") 221, .str (Str.ofString "loader") 222, .str (Str.ofString "loader_state") 223, .str (Str.ofString "name") 224, .str (Str.ofString "origin") 225, .str (Str.ofString "submodule_search_locations") 226].toArray 0, #[]⟩
noncomputable def o24 (_ : Params) : Obj := ⟨.type "getset_descriptor", none, .fields [.str (Str.ofString "__dict__") 237, .ref 22, .builtin "function.__dict__", .builtin "function.__dict__#set"].toArray, #[]⟩
noncomputable def o25 (_ : Params) : Obj := ⟨.type "getset_descriptor", none, .fields [.str (Str.ofString "__weakref__") 239, .ref 22, .builtin "ExceptionGroup.__weakref__", .none].toArray, #[]⟩
noncomputable def o26 (_ : Params) : Obj := ⟨.ref 22, (some 20), .plain, #[]⟩
noncomputable def o27 (_ : Params) : Obj := ⟨.none, none, .seq [.int 11 0, .str (Str.mk #[6, 247, 8, 95, 95, 110, 97, 109, 101, 95, 95, 6, 246, 4, 95, 115, 114, 101, 6, 248, 7, 95, 95, 100, 111, 99, 95, 95, 0, 6, 250, 11, 95, 95, 112, 97, 99, 107, 97, 103, 101, 95, 95, 6, 249, 0, 6, 251, 10, 95, 95, 108, 111, 97, 100, 101, 114, 95, 95, 4, 0, 0, 14, 6, 252, 8, 95, 95, 115, 112, 101, 99, 95, 95, 4, 0, 0, 26, 6, 253, 7, 99, 111, 109, 112, 105, 108, 101, 9, 12, 95, 115, 114, 101, 46, 99, 111, 109, 112, 105, 108, 101, 6, 254, 8, 116, 101, 109, 112, 108, 97, 116, 101, 9, 13, 95, 115, 114, 101, 46, 116, 101, 109, 112, 108, 97, 116, 101, 6, 255, 11, 103, 101, 116, 99, 111, 100, 101, 115, 105, 122, 101, 9, 16, 95, 115, 114, 101, 46, 103, 101, 116, 99, 111, 100, 101, 115, 105, 122, 101, 6, 256, 13, 97, 115, 99, 105, 105, 95, 105, 115, 99, 97, 115, 101, 100, 9, 18, 95, 115, 114, 101, 46, 97, 115, 99, 105, 105, 95, 105, 115, 99, 97, 115, 101, 100, 6, 257, 15, 117, 110, 105, 99, 111, 100, 101, 95, 105, 115, 99, 97, 115, 101, 100, 9, 20, 95, 115, 114, 101, 46, 117, 110, 105, 99, 111, 100, 101, 95, 105, 115, 99, 97, 115, 101, 100, 6, 258, 13, 97, 115, 99, 105, 105, 95, 116, 111, 108, 111, 119, 101, 114, 9, 18, 95, 115, 114, 101, 46, 97, 115, 99, 105, 105, 95, 116, 111, 108, 111, 119, 101, 114, 6, 259, 15, 117, 110, 105, 99, 111, 100, 101, 95, 116, 111, 108, 111, 119, 101, 114, 9, 20, 95, 115, 114, 101, 46, 117, 110, 105, 99, 111, 100, 101, 95, 116, 111, 108, 111, 119, 101, 114, 6, 261, 5, 77, 65, 71, 73, 67, 4, 260, 0, 20230612, 6, 263, 8, 67, 79, 68, 69, 83, 73, 90, 69, 4, 262, 0, 4, 6, 265, 9, 77, 65, 88, 82, 69, 80, 69, 65, 84, 4, 264, 0, 4294967295, 6, 267, 9, 77, 65, 88, 71, 82, 79, 85, 80, 83, 4, 266, 0, 1073741823, 6, 269, 9, 99, 111, 112, 121, 114, 105, 103, 104, 116, 6, 268, 53, 32, 83, 82, 69, 32, 50, 46, 50, 46, 50, 32, 67, 111, 112, 121, 114, 105, 103, 104, 116, 32, 40, 99, 41, 32, 49, 57, 57, 55, 45, 50, 48, 48, 50, 32, 98, 121, 32, 83, 101, 99, 114, 101, 116, 32, 76, 97, 98, 115, 32, 65, 66, 32]) 0, .bool true, .bool false, .str (Str.ofString "_sre") 271].toArray 0, #[]⟩
noncomputable def o28 (_ : Params) : Obj := ⟨.type "tuple", none, .seq [].toArray 0, #[]⟩
noncomputable def o29b (_ : Params) : Obj := ⟨.none, none, .fields [].toArray, #[]⟩
noncomputable def o29c (_ : Params) : Obj := ⟨.none, none, .fields [.int 3 0, .int 0 0, .ref 37, .int 5 0, .int 0 0, .ref 44, .int 16 0, .int 0 0, .ref 51, .int 35 0, .int 0 0, .ref 58, .int 46 0, .int 0 0, .ref 65, .int 59 0, .int 0 0, .ref 72, .int 80 0, .int 0 0, .ref 89].toArray, #[]⟩
noncomputable def o29e (_ : Params) : Obj := ⟨.none, none, .fields [.int 3 0, .int 0 0, .ref 37, .int 5 0, .int 0 0, .ref 44, .int 16 0, .int 0 0, .ref 51, .int 35 0, .int 0 0, .ref 58, .int 46 0, .int 0 0, .ref 65, .int 59 0, .int 0 0, .ref 72, .int 80 0, .int 0 0, .ref 89, .int 84 0, .int 0 0, .ref 107].toArray, #[]⟩
noncomputable def o29 (_ : Params) : Obj := ⟨.none, none, .fields [.int 3 0, .int 0 0, .ref 37, .int 5 0, .int 0 0, .ref 44, .int 16 0, .int 0 0, .ref 51, .int 35 0, .int 0 0, .ref 58, .int 46 0, .int 0 0, .ref 65, .int 59 0, .int 0 0, .ref 72, .int 80 0, .int 0 0, .ref 89, .int 84 0, .int 0 0, .ref 107, .int 87 0, .int 0 0, .ref 153, .int 93 0, .int 0 0, .ref 160, .int 96 0, .int 0 0, .ref 167, .int 99 0, .int 0 0, .ref 174, .int 103 0, .int 0 0, .ref 181, .int 109 0, .int 0 0, .ref 188, .int 118 0, .int 0 0, .ref 195, .int 133 0, .int 0 0, .ref 202, .int 143 0, .int 0 0, .ref 209, .int 150 0, .int 0 0, .ref 216, .int 175 0, .int 0 0, .ref 221].toArray, #[]⟩
noncomputable def o30 (_ : Params) : Obj := ⟨.type "code", none, .fields [.str (Str.ofString "<module>") 277, .str (Str.ofString "<module>") 278, .str (Str.ofString "/claim/cut.py") 279, .int 1 0, .int 0 0, .int 0 0, .int 0 0, .int 0 0, .ref 28, .bool false, .int 276 0, .ref 29, .none, .none, .none, .none, .int 280 0, .int 1 0, .str (Str.ofString "/claim/cut.py") 281].toArray, #[]⟩
noncomputable def o31 (_ : Params) : Obj := ⟨.type "frame", none, .plain, #[some (.ref 30), some (.ref 3), some (.ref 3), none, some (.str (Str.ofString "__main__") 164), none, some (.ref 0)]⟩
noncomputable def o32 (_ : Params) : Obj := ⟨.type "tuple", none, .seq [].toArray 0, #[]⟩
noncomputable def o33 (_ : Params) : Obj := ⟨.none, none, .fields [].toArray, #[]⟩
noncomputable def o34 (_ : Params) : Obj := ⟨.type "tuple", none, .seq [.str (Str.ofString "text") 287].toArray 0, #[]⟩
noncomputable def o35 (_ : Params) : Obj := ⟨.type "tuple", none, .seq [].toArray 0, #[]⟩
noncomputable def o36 (_ : Params) : Obj := ⟨.none, none, .func ({ name := (Str.ofString "_raise_serialization_error"), qualname := (Str.ofString "_raise_serialization_error"), params := fA 2, body := .stmts (fB 2), scope := fS 2, globals := 0, closure := [], defaults := .none, kwdefaults := .none, doc := .none, pyModule := .none, annotations := none, code := .none, closureTuple := .none, builtins := 0 }), #[]⟩
noncomputable def o37 (_ : Params) : Obj := ⟨.type "code", none, .fields [.str (Str.ofString "_raise_serialization_error") 284, .str (Str.ofString "_raise_serialization_error") 285, .str (Str.ofString "/claim/cut.py") 286, .int 3 0, .int 1 0, .int 0 0, .int 0 0, .int 3 0, .ref 32, .bool true, .int 276 0, .ref 33, .none, .ref 34, .ref 35, .ref 36, .int 288 0, .int 3 0, .str (Str.ofString "/claim/cut.py") 289].toArray, #[]⟩
noncomputable def o38 (_ : Params) : Obj := ⟨.type "function", none, .func ({ name := (Str.ofString "_raise_serialization_error"), qualname := (Str.ofString "_raise_serialization_error"), params := fA 2, body := .stmts (fB 2), scope := fS 2, globals := 3, closure := [], defaults := .none, kwdefaults := .none, doc := .none, pyModule := .str (Str.ofString "cpy313.xml.etree.ElementTree") 282, annotations := none, code := .ref 37, closureTuple := .none, builtins := 0 }), #[]⟩
noncomputable def o39 (_ : Params) : Obj := ⟨.type "tuple", none, .seq [].toArray 0, #[]⟩
noncomputable def o40 (_ : Params) : Obj := ⟨.none, none, .fields [].toArray, #[]⟩
noncomputable def o41 (_ : Params) : Obj := ⟨.type "tuple", none, .seq [.str (Str.ofString "text") 294].toArray 0, #[]⟩
noncomputable def o42 (_ : Params) : Obj := ⟨.type "tuple", none, .seq [].toArray 0, #[]⟩
noncomputable def o43 (_ : Params) : Obj := ⟨.none, none, .func ({ name := (Str.ofString "_escape_cdata"), qualname := (Str.ofString "_escape_cdata"), params := fA 3, body := .stmts (fB 3), scope := fS 3, globals := 0, closure := [], defaults := .none, kwdefaults := .none, doc := .none, pyModule := .none, annotations := none, code := .none, closureTuple := .none, builtins := 0 }), #[]⟩
noncomputable def o44 (_ : Params) : Obj := ⟨.type "code", none, .fields [.str (Str.ofString "_escape_cdata") 291, .str (Str.ofString "_escape_cdata") 292, .str (Str.ofString "/claim/cut.py") 293, .int 5 0, .int 1 0, .int 0 0, .int 0 0, .int 3 0, .ref 39, .bool true, .int 276 0, .ref 40, .none, .ref 41, .ref 42, .ref 43, .int 295 0, .int 5 0, .str (Str.ofString "/claim/cut.py") 296].toArray, #[]⟩
noncomputable def o45 (_ : Params) : Obj := ⟨.type "function", none, .func ({ name := (Str.ofString "_escape_cdata"), qualname := (Str.ofString "_escape_cdata"), params := fA 3, body := .stmts (fB 3), scope := fS 3, globals := 3, closure := [], defaults := .none, kwdefaults := .none, doc := .none, pyModule := .str (Str.ofString "cpy313.xml.etree.ElementTree") 282, annotations := none, code := .ref 44, closureTuple := .none, builtins := 0 }), #[]⟩
noncomputable def o46 (_ : Params) : Obj := ⟨.type "tuple", none, .seq [].toArray 0, #[]⟩
noncomputable def o47 (_ : Params) : Obj := ⟨.none, none, .fields [].toArray, #[]⟩
noncomputable def o48 (_ : Params) : Obj := ⟨.type "tuple", none, .seq [.str (Str.ofString "text") 301].toArray 0, #[]⟩
noncomputable def o49 (_ : Params) : Obj := ⟨.type "tuple", none, .seq [].toArray 0, #[]⟩
noncomputable def o50 (_ : Params) : Obj := ⟨.none, none, .func ({ name := (Str.ofString "_escape_attrib"), qualname := (Str.ofString "_escape_attrib"), params := fA 4, body := .stmts (fB 4), scope := fS 4, globals := 0, closure := [], defaults := .none, kwdefaults := .none, doc := .none, pyModule := .none, annotations := none, code := .none, closureTuple := .none, builtins := 0 }), #[]⟩
noncomputable def o51 (_ : Params) : Obj := ⟨.type "code", none, .fields [.str (Str.ofString "_escape_attrib") 298, .str (Str.ofString "_escape_attrib") 299, .str (Str.ofString "/claim/cut.py") 300, .int 16 0, .int 1 0, .int 0 0, .int 0 0, .int 3 0, .ref 46, .bool true, .int 276 0, .ref 47, .none, .ref 48, .ref 49, .ref 50, .int 302 0, .int 16 0, .str (Str.ofString "/claim/cut.py") 303].toArray, #[]⟩
noncomputable def o52 (_ : Params) : Obj := ⟨.type "function", none, .func ({ name := (Str.ofString "_escape_attrib"), qualname := (Str.ofString "_escape_attrib"), params := fA 4, body := .stmts (fB 4), scope := fS 4, globals := 3, closure := [], defaults := .none, kwdefaults := .none, doc := .none, pyModule := .str (Str.ofString "cpy313.xml.etree.ElementTree") 282, annotations := none, code := .ref 51, closureTuple := .none, builtins := 0 }), #[]⟩
noncomputable def o53 (_ : Params) : Obj := ⟨.type "tuple", none, .seq [].toArray 0, #[]⟩
noncomputable def o54 (_ : Params) : Obj := ⟨.none, none, .fields [].toArray, #[]⟩
noncomputable def o55 (_ : Params) : Obj := ⟨.type "tuple", none, .seq [.str (Str.ofString "text") 308].toArray 0, #[]⟩
noncomputable def o56 (_ : Params) : Obj := ⟨.type "tuple", none, .seq [].toArray 0, #[]⟩
noncomputable def o57 (_ : Params) : Obj := ⟨.none, none, .func ({ name := (Str.ofString "_escape_attrib_html"), qualname := (Str.ofString "_escape_attrib_html"), params := fA 5, body := .stmts (fB 5), scope := fS 5, globals := 0, closure := [], defaults := .none, kwdefaults := .none, doc := .none, pyModule := .none, annotations := none, code := .none, closureTuple := .none, builtins := 0 }), #[]⟩
noncomputable def o58 (_ : Params) : Obj := ⟨.type "code", none, .fields [.str (Str.ofString "_escape_attrib_html") 305, .str (Str.ofString "_escape_attrib_html") 306, .str (Str.ofString "/claim/cut.py") 307, .int 35 0, .int 1 0, .int 0 0, .int 0 0, .int 3 0, .ref 53, .bool true, .int 276 0, .ref 54, .none, .ref 55, .ref 56, .ref 57, .int 309 0, .int 35 0, .str (Str.ofString "/claim/cut.py") 310].toArray, #[]⟩
noncomputable def o59 (_ : Params) : Obj := ⟨.type "function", none, .func ({ name := (Str.ofString "_escape_attrib_html"), qualname := (Str.ofString "_escape_attrib_html"), params := fA 5, body := .stmts (fB 5), scope := fS 5, globals := 3, closure := [], defaults := .none, kwdefaults := .none, doc := .none, pyModule := .str (Str.ofString "cpy313.xml.etree.ElementTree") 282, annotations := none, code := .ref 58, closureTuple := .none, builtins := 0 }), #[]⟩
noncomputable def o60 (_ : Params) : Obj := ⟨.type "tuple", none, .seq [].toArray 0, #[]⟩
noncomputable def o61 (_ : Params) : Obj := ⟨.none, none, .fields [].toArray, #[]⟩
noncomputable def o62 (_ : Params) : Obj := ⟨.type "tuple", none, .seq [.str (Str.ofString "text") 315].toArray 0, #[]⟩
noncomputable def o63 (_ : Params) : Obj := ⟨.type "tuple", none, .seq [].toArray 0, #[]⟩
noncomputable def o64 (_ : Params) : Obj := ⟨.none, none, .func ({ name := (Str.ofString "_escape_cdata_c14n"), qualname := (Str.ofString "_escape_cdata_c14n"), params := fA 6, body := .stmts (fB 6), scope := fS 6, globals := 0, closure := [], defaults := .none, kwdefaults := .none, doc := .none, pyModule := .none, annotations := none, code := .none, closureTuple := .none, builtins := 0 }), #[]⟩
noncomputable def o65 (_ : Params) : Obj := ⟨.type "code", none, .fields [.str (Str.ofString "_escape_cdata_c14n") 312, .str (Str.ofString "_escape_cdata_c14n") 313, .str (Str.ofString "/claim/cut.py") 314, .int 46 0, .int 1 0, .int 0 0, .int 0 0, .int 3 0, .ref 60, .bool true, .int 276 0, .ref 61, .none, .ref 62, .ref 63, .ref 64, .int 316 0, .int 46 0, .str (Str.ofString "/claim/cut.py") 317].toArray, #[]⟩
noncomputable def o66 (_ : Params) : Obj := ⟨.type "function", none, .func ({ name := (Str.ofString "_escape_cdata_c14n"), qualname := (Str.ofString "_escape_cdata_c14n"), params := fA 6, body := .stmts (fB 6), scope := fS 6, globals := 3, closure := [], defaults := .none, kwdefaults := .none, doc := .none, pyModule := .str (Str.ofString "cpy313.xml.etree.ElementTree") 282, annotations := none, code := .ref 65, closureTuple := .none, builtins := 0 }), #[]⟩
noncomputable def o67 (_ : Params) : Obj := ⟨.type "tuple", none, .seq [].toArray 0, #[]⟩
noncomputable def o68 (_ : Params) : Obj := ⟨.none, none, .fields [].toArray, #[]⟩
noncomputable def o69 (_ : Params) : Obj := ⟨.type "tuple", none, .seq [.str (Str.ofString "text") 322].toArray 0, #[]⟩
noncomputable def o70 (_ : Params) : Obj := ⟨.type "tuple", none, .seq [].toArray 0, #[]⟩
noncomputable def o71 (_ : Params) : Obj := ⟨.none, none, .func ({ name := (Str.ofString "_escape_attrib_c14n"), qualname := (Str.ofString "_escape_attrib_c14n"), params := fA 7, body := .stmts (fB 7), scope := fS 7, globals := 0, closure := [], defaults := .none, kwdefaults := .none, doc := .none, pyModule := .none, annotations := none, code := .none, closureTuple := .none, builtins := 0 }), #[]⟩
noncomputable def o72 (_ : Params) : Obj := ⟨.type "code", none, .fields [.str (Str.ofString "_escape_attrib_c14n") 319, .str (Str.ofString "_escape_attrib_c14n") 320, .str (Str.ofString "/claim/cut.py") 321, .int 59 0, .int 1 0, .int 0 0, .int 0 0, .int 3 0, .ref 67, .bool true, .int 276 0, .ref 68, .none, .ref 69, .ref 70, .ref 71, .int 323 0, .int 59 0, .str (Str.ofString "/claim/cut.py") 324].toArray, #[]⟩
noncomputable def o73 (_ : Params) : Obj := ⟨.type "function", none, .func ({ name := (Str.ofString "_escape_attrib_c14n"), qualname := (Str.ofString "_escape_attrib_c14n"), params := fA 7, body := .stmts (fB 7), scope := fS 7, globals := 3, closure := [], defaults := .none, kwdefaults := .none, doc := .none, pyModule := .str (Str.ofString "cpy313.xml.etree.ElementTree") 282, annotations := none, code := .ref 72, closureTuple := .none, builtins := 0 }), #[]⟩
noncomputable def o74 (_ : Params) : Obj := ⟨.type "list", none, .seq [.int 14 331, .int 4 332, .int 0 333, .int 1 334, .int 1 335, .int 6 336, .int 1 337, .int 16 338, .int 46 339, .int 1 340].toArray 0, #[]⟩
noncomputable def o75 (_ : Params) : Obj := ⟨.type "dict", none, .dict [].toArray 0, #[]⟩
noncomputable def o76 (_ : Params) : Obj := ⟨.type "tuple", none, .seq [.none].toArray 0, #[]⟩
noncomputable def o77 (_ : Params) : Obj := ⟨.type "tuple", none, .seq [.int 14 0, .int 4 0, .int 0 0, .int 1 0, .int 1 0, .int 6 0, .int 1 0, .int 16 0, .int 46 0, .int 1 0].toArray 0, #[]⟩
noncomputable def o78 (_ : Params) : Obj := ⟨.type "re.Pattern", none, .fields [.str (Str.ofString "(?m)^\\.") 329, .int 40 342, .int 0 0, .none, .none, .ref 77, .int 0 0].toArray, #[]⟩
noncomputable def o79 (_ : Params) : Obj := ⟨.type "list", none, .seq [.int 14 347, .int 9 348, .int 4 349, .int 1 350, .int 2 351, .int 16 352, .int 10 353, .int 16 354, .int 13 355, .int 0 356, .int 7 357, .int 7 358, .int 16 359, .int 13 360, .int 16 361, .int 10 362, .int 15 363, .int 18 364, .int 5 365, .int 16 366, .int 10 367, .int 15 368, .int 13 369, .int 11 370, .int 16 371, .int 13 372, .int 5 373, .int 5 374, .int 0 375, .int 16 376, .int 10 377, .int 1 378, .int 15 379, .int 2 380, .int 0 381, .int 1 382].toArray 0, #[]⟩
noncomputable def o80 (_ : Params) : Obj := ⟨.type "dict", none, .dict [].toArray 0, #[]⟩
noncomputable def o81 (_ : Params) : Obj := ⟨.type "tuple", none, .seq [.none].toArray 0, #[]⟩
noncomputable def o82 (_ : Params) : Obj := ⟨.type "tuple", none, .seq [.int 14 0, .int 9 0, .int 4 0, .int 1 0, .int 2 0, .int 16 0, .int 10 0, .int 16 0, .int 13 0, .int 0 0, .int 7 0, .int 7 0, .int 16 0, .int 13 0, .int 16 0, .int 10 0, .int 15 0, .int 18 0, .int 5 0, .int 16 0, .int 10 0, .int 15 0, .int 13 0, .int 11 0, .int 16 0, .int 13 0, .int 5 0, .int 5 0, .int 0 0, .int 16 0, .int 10 0, .int 1 0, .int 15 0, .int 2 0, .int 0 0, .int 1 0].toArray 0, #[]⟩
noncomputable def o83 (_ : Params) : Obj := ⟨.type "re.Pattern", none, .fields [.str (Str.ofString "(?:\\r\\n|\\n|\\r(?!\\n))") 345, .int 32 384, .int 0 0, .none, .none, .ref 82, .int 0 0].toArray, #[]⟩
noncomputable def o84 (_ : Params) : Obj := ⟨.type "tuple", none, .seq [].toArray 0, #[]⟩
noncomputable def o85 (_ : Params) : Obj := ⟨.none, none, .fields [].toArray, #[]⟩
noncomputable def o86 (_ : Params) : Obj := ⟨.type "tuple", none, .seq [.str (Str.ofString "data") 391].toArray 0, #[]⟩
noncomputable def o87 (_ : Params) : Obj := ⟨.type "tuple", none, .seq [].toArray 0, #[]⟩
noncomputable def o88 (_ : Params) : Obj := ⟨.none, none, .func ({ name := (Str.ofString "quotedata"), qualname := (Str.ofString "quotedata"), params := fA 12, body := .stmts (fB 12), scope := fS 12, globals := 0, closure := [], defaults := .none, kwdefaults := .none, doc := .none, pyModule := .none, annotations := none, code := .none, closureTuple := .none, builtins := 0 }), #[]⟩
noncomputable def o89 (_ : Params) : Obj := ⟨.type "code", none, .fields [.str (Str.ofString "quotedata") 388, .str (Str.ofString "quotedata") 389, .str (Str.ofString "/claim/cut.py") 390, .int 80 0, .int 1 0, .int 0 0, .int 0 0, .int 3 0, .ref 84, .bool true, .int 276 0, .ref 85, .none, .ref 86, .ref 87, .ref 88, .int 392 0, .int 80 0, .str (Str.ofString "/claim/cut.py") 393].toArray, #[]⟩
noncomputable def o90 (_ : Params) : Obj := ⟨.type "function", none, .func ({ name := (Str.ofString "quotedata"), qualname := (Str.ofString "quotedata"), params := fA 12, body := .stmts (fB 12), scope := fS 12, globals := 3, closure := [], defaults := .none, kwdefaults := .none, doc := .none, pyModule := .str (Str.ofString "cpy313.smtplib") 326, annotations := none, code := .ref 89, closureTuple := .none, builtins := 0 }), #[]⟩
noncomputable def o91 (_ : Params) : Obj := ⟨.type "list", none, .seq [.int 173 397, .int 847 398, .int 6150 399, .int 6155 400, .int 6156 401, .int 6157 402, .int 8203 403, .int 8204 404, .int 8205 405, .int 8288 406, .int 65279 407].toArray 0, #[]⟩
noncomputable def o92 (_ : Params) : Obj := ⟨.type "range", none, .fields [.int 65024 408, .int 65040 409, .int 1 410].toArray, #[]⟩
noncomputable def o93 (_ : Params) : Obj := ⟨.type "list", none, .seq [.int 65024 413, .int 65025 414, .int 65026 415, .int 65027 416, .int 65028 417, .int 65029 418, .int 65030 419, .int 65031 420, .int 65032 421, .int 65033 422, .int 65034 423, .int 65035 424, .int 65036 425, .int 65037 426, .int 65038 427, .int 65039 428].toArray 18, #[]⟩
noncomputable def o94 (_ : Params) : Obj := ⟨.type "range_iterator", none, .fields [.int 65040 0, .int 0 0, .int 1 0].toArray, #[]⟩
noncomputable def o95 (_ : Params) : Obj := ⟨.type "tuple", none, .seq [].toArray 0, #[]⟩
noncomputable def o96 (_ : Params) : Obj := ⟨.type "StopIteration", none, .fields [.ref 95, .none, .none, .none, .bool false, .none].toArray, #[]⟩
noncomputable def o97 (_ : Params) : Obj := ⟨.type "list", none, .seq [.int 173 397, .int 847 398, .int 6150 399, .int 6155 400, .int 6156 401, .int 6157 402, .int 8203 403, .int 8204 404, .int 8205 405, .int 8288 406, .int 65279 407, .int 65024 413, .int 65025 414, .int 65026 415, .int 65027 416, .int 65028 417, .int 65029 418, .int 65030 419, .int 65031 420, .int 65032 421, .int 65033 422, .int 65034 423, .int 65035 424, .int 65036 425, .int 65037 426, .int 65038 427, .int 65039 428].toArray 0, #[]⟩
noncomputable def o98 (P : Params) : Obj := ⟨.type "set", none, .set #[(65024, .int 65024 413), (65025, .int 65025 414), (65026, .int 65026 415), (65027, .int 65027 416), (65028, .int 65028 417), (65029, .int 65029 418), (6150, .int 6150 399), (65030, .int 65030 419), (65031, .int 65031 420), (65032, .int 65032 421), (65033, .int 65033 422), (6155, .int 6155 400), (6156, .int 6156 401), (6157, .int 6157 402), (8203, .int 8203 403), (8204, .int 8204 404), (8205, .int 8205 405), (65034, .int 65034 423), (65035, .int 65035 424), (65036, .int 65036 425), (65037, .int 65037 426), (65038, .int 65038 427), (65039, .int 65039 428), (173, .int 173 397), (847, .int 847 398), (8288, .int 8288 406), (65279, .int 65279 407)] 29 ⟨127, #[0, 1, 2, 3, 4, 5, 6, 7, 8, 9, 10, 11, 12, 13, 14, 15, 16, 17, 18, 19, 20, 21, 22, 45, 79, 96, 127], #[], 0, !(P.followText "set-order"), 2, true⟩, #[]⟩
noncomputable def o99 (_ : Params) : Obj := ⟨.type "list_iterator", none, .fields [.none, .int 27 0].toArray, #[]⟩
noncomputable def o100 (_ : Params) : Obj := ⟨.type "tuple", none, .seq [].toArray 0, #[]⟩
noncomputable def o101 (_ : Params) : Obj := ⟨.type "StopIteration", none, .fields [.ref 100, .none, .none, .none, .bool false, .none].toArray, #[]⟩
noncomputable def o102 (_ : Params) : Obj := ⟨.type "tuple", none, .seq [].toArray 0, #[]⟩
noncomputable def o103 (_ : Params) : Obj := ⟨.none, none, .fields [].toArray, #[]⟩
noncomputable def o104 (_ : Params) : Obj := ⟨.type "tuple", none, .seq [.str (Str.ofString "code") 460].toArray 0, #[]⟩
noncomputable def o105 (_ : Params) : Obj := ⟨.type "tuple", none, .seq [].toArray 0, #[]⟩
noncomputable def o106 (_ : Params) : Obj := ⟨.none, none, .func ({ name := (Str.ofString "in_table_b1"), qualname := (Str.ofString "in_table_b1"), params := fA 15, body := .stmts (fB 15), scope := fS 15, globals := 0, closure := [], defaults := .none, kwdefaults := .none, doc := .none, pyModule := .none, annotations := none, code := .none, closureTuple := .none, builtins := 0 }), #[]⟩
noncomputable def o107 (_ : Params) : Obj := ⟨.type "code", none, .fields [.str (Str.ofString "in_table_b1") 457, .str (Str.ofString "in_table_b1") 458, .str (Str.ofString "/claim/cut.py") 459, .int 84 0, .int 1 0, .int 0 0, .int 0 0, .int 3 0, .ref 102, .bool true, .int 276 0, .ref 103, .none, .ref 104, .ref 105, .ref 106, .int 461 0, .int 84 0, .str (Str.ofString "/claim/cut.py") 462].toArray, #[]⟩
noncomputable def o108 (_ : Params) : Obj := ⟨.type "function", none, .func ({ name := (Str.ofString "in_table_b1"), qualname := (Str.ofString "in_table_b1"), params := fA 15, body := .stmts (fB 15), scope := fS 15, globals := 3, closure := [], defaults := .none, kwdefaults := .none, doc := .none, pyModule := .str (Str.ofString "cpy313.stringprep") 395, annotations := none, code := .ref 107, closureTuple := .none, builtins := 0 }), #[]⟩
noncomputable def b3Pairs : List (Option Expr × Expr) := match pw.main.body[16]? with
  | some (PySem.Stmt.Assign _ (PySem.Expr.Dict ks vs _) _) => ks.zip vs
  | _ => []
noncomputable def b3Item : Option Expr × Expr → Int × Str
  | (some (PySem.Expr.Constant (PySem.Const.int k) _ _), PySem.Expr.Constant (PySem.Const.str v) _ _) => (k, v)
  | _ => (0, ⟨#[]⟩)
noncomputable def b3Items : List (Int × Str) := b3Pairs.map b3Item
noncomputable def runE : Nat → List (Int × Str) → List DictEntry
  | _, [] => []
  | t, (k, v) :: r => ⟨k, .int k t, .str v (t + 1)⟩ :: runE (t + 3) r
noncomputable def lastE : Nat → List (Int × Str) → List DictEntry
  | _, [] => []
  | t, (k, v) :: r => ⟨k, .int k t, .str v (t + 1)⟩ :: lastE (t + 2) r
noncomputable def b3Run (j : Nat) : List (Int × Str) := (b3Items.drop (17 * j)).take 17
noncomputable def b3Es (j : Nat) : List DictEntry := if j < 38 then runE (464 + 51 * j) (b3Run j) else lastE (464 + 51 * j) (b3Run j)
noncomputable def b3All : List DictEntry := (List.range 39).flatMap b3Es
noncomputable def oSub (j : Nat) : Obj := ⟨.type "dict", none, .dict (b3Es j).toArray (b3Run j).length, #[]⟩
noncomputable def o109 (_ : Params) : Obj := ⟨.type "dict", none, .dict b3All.toArray 650, #[]⟩
noncomputable def o110 (_ : Params) : Obj := oSub 1
noncomputable def o111 (_ : Params) : Obj := oSub 2
noncomputable def o112 (_ : Params) : Obj := oSub 3
noncomputable def o113 (_ : Params) : Obj := oSub 4
noncomputable def o114 (_ : Params) : Obj := oSub 5
noncomputable def o115 (_ : Params) : Obj := oSub 6
noncomputable def o116 (_ : Params) : Obj := oSub 7
noncomputable def o117 (_ : Params) : Obj := oSub 8
noncomputable def o118 (_ : Params) : Obj := oSub 9
noncomputable def o119 (_ : Params) : Obj := oSub 10
noncomputable def o120 (_ : Params) : Obj := oSub 11
noncomputable def o121 (_ : Params) : Obj := oSub 12
noncomputable def o122 (_ : Params) : Obj := oSub 13
noncomputable def o123 (_ : Params) : Obj := oSub 14
noncomputable def o124 (_ : Params) : Obj := oSub 15
noncomputable def o125 (_ : Params) : Obj := oSub 16
noncomputable def o126 (_ : Params) : Obj := oSub 17
noncomputable def o127 (_ : Params) : Obj := oSub 18
noncomputable def o128 (_ : Params) : Obj := oSub 19
noncomputable def o129 (_ : Params) : Obj := oSub 20
noncomputable def o130 (_ : Params) : Obj := oSub 21
noncomputable def o131 (_ : Params) : Obj := oSub 22
noncomputable def o132 (_ : Params) : Obj := oSub 23
noncomputable def o133 (_ : Params) : Obj := oSub 24
noncomputable def o134 (_ : Params) : Obj := oSub 25
noncomputable def o135 (_ : Params) : Obj := oSub 26
noncomputable def o136 (_ : Params) : Obj := oSub 27
noncomputable def o137 (_ : Params) : Obj := oSub 28
noncomputable def o138 (_ : Params) : Obj := oSub 29
noncomputable def o139 (_ : Params) : Obj := oSub 30
noncomputable def o140 (_ : Params) : Obj := oSub 31
noncomputable def o141 (_ : Params) : Obj := oSub 32
noncomputable def o142 (_ : Params) : Obj := oSub 33
noncomputable def o143 (_ : Params) : Obj := oSub 34
noncomputable def o144 (_ : Params) : Obj := oSub 35
noncomputable def o145 (_ : Params) : Obj := oSub 36
noncomputable def o146 (_ : Params) : Obj := oSub 37
noncomputable def o147 (_ : Params) : Obj := oSub 38
noncomputable def o148 (_ : Params) : Obj := ⟨.type "tuple", none, .seq [].toArray 0, #[]⟩
noncomputable def o149 (_ : Params) : Obj := ⟨.none, none, .fields [].toArray, #[]⟩
noncomputable def o150 (_ : Params) : Obj := ⟨.type "tuple", none, .seq [.str (Str.ofString "code") 2418, .str (Str.ofString "r") 2419].toArray 0, #[]⟩
noncomputable def o151 (_ : Params) : Obj := ⟨.type "tuple", none, .seq [].toArray 0, #[]⟩
noncomputable def o152 (_ : Params) : Obj := ⟨.none, none, .func ({ name := (Str.ofString "map_table_b3"), qualname := (Str.ofString "map_table_b3"), params := fA 17, body := .stmts (fB 17), scope := fS 17, globals := 0, closure := [], defaults := .none, kwdefaults := .none, doc := .none, pyModule := .none, annotations := none, code := .none, closureTuple := .none, builtins := 0 }), #[]⟩
noncomputable def o153 (_ : Params) : Obj := ⟨.type "code", none, .fields [.str (Str.ofString "map_table_b3") 2415, .str (Str.ofString "map_table_b3") 2416, .str (Str.ofString "/claim/cut.py") 2417, .int 87 0, .int 1 0, .int 0 0, .int 0 0, .int 3 0, .ref 148, .bool true, .int 276 0, .ref 149, .none, .ref 150, .ref 151, .ref 152, .int 2420 0, .int 87 0, .str (Str.ofString "/claim/cut.py") 2421].toArray, #[]⟩
noncomputable def o154 (_ : Params) : Obj := ⟨.type "function", none, .func ({ name := (Str.ofString "map_table_b3"), qualname := (Str.ofString "map_table_b3"), params := fA 17, body := .stmts (fB 17), scope := fS 17, globals := 3, closure := [], defaults := .none, kwdefaults := .none, doc := .none, pyModule := .str (Str.ofString "cpy313.stringprep") 395, annotations := none, code := .ref 153, closureTuple := .none, builtins := 0 }), #[]⟩
noncomputable def o155 (_ : Params) : Obj := ⟨.type "tuple", none, .seq [].toArray 0, #[]⟩
noncomputable def o156 (_ : Params) : Obj := ⟨.none, none, .fields [].toArray, #[]⟩
noncomputable def o157 (_ : Params) : Obj := ⟨.type "tuple", none, .seq [.str (Str.ofString "n") 2428, .str (Str.ofString "codes") 2429].toArray 0, #[]⟩
noncomputable def o158 (_ : Params) : Obj := ⟨.type "tuple", none, .seq [].toArray 0, #[]⟩
noncomputable def o159 (_ : Params) : Obj := ⟨.none, none, .func ({ name := (Str.ofString "_law_nothing"), qualname := (Str.ofString "_law_nothing"), params := fA 19, body := .stmts (fB 19), scope := fS 19, globals := 0, closure := [], defaults := .none, kwdefaults := .none, doc := .none, pyModule := .none, annotations := none, code := .none, closureTuple := .none, builtins := 0 }), #[]⟩
noncomputable def o160 (_ : Params) : Obj := ⟨.type "code", none, .fields [.str (Str.ofString "_law_nothing") 2425, .str (Str.ofString "_law_nothing") 2426, .str (Str.ofString "/claim/cut.py") 2427, .int 93 0, .int 1 0, .int 0 0, .int 0 0, .int 3 0, .ref 155, .bool true, .int 276 0, .ref 156, .none, .ref 157, .ref 158, .ref 159, .int 2430 0, .int 93 0, .str (Str.ofString "/claim/cut.py") 2431].toArray, #[]⟩
noncomputable def o161 (_ : Params) : Obj := ⟨.type "function", none, .func ({ name := (Str.ofString "_law_nothing"), qualname := (Str.ofString "_law_nothing"), params := fA 19, body := .stmts (fB 19), scope := fS 19, globals := 3, closure := [], defaults := .none, kwdefaults := .none, doc := .none, pyModule := .str (Str.ofString "law_st0031_01") 2423, annotations := none, code := .ref 160, closureTuple := .none, builtins := 0 }), #[]⟩
noncomputable def o162 (_ : Params) : Obj := ⟨.type "tuple", none, .seq [].toArray 0, #[]⟩
noncomputable def o163 (_ : Params) : Obj := ⟨.none, none, .fields [].toArray, #[]⟩
noncomputable def o164 (_ : Params) : Obj := ⟨.type "tuple", none, .seq [.str (Str.ofString "n") 2436, .str (Str.ofString "starts") 2437].toArray 0, #[]⟩
noncomputable def o165 (_ : Params) : Obj := ⟨.type "tuple", none, .seq [].toArray 0, #[]⟩
noncomputable def o166 (_ : Params) : Obj := ⟨.none, none, .func ({ name := (Str.ofString "_law_letter"), qualname := (Str.ofString "_law_letter"), params := fA 20, body := .stmts (fB 20), scope := fS 20, globals := 0, closure := [], defaults := .none, kwdefaults := .none, doc := .none, pyModule := .none, annotations := none, code := .none, closureTuple := .none, builtins := 0 }), #[]⟩
noncomputable def o167 (_ : Params) : Obj := ⟨.type "code", none, .fields [.str (Str.ofString "_law_letter") 2433, .str (Str.ofString "_law_letter") 2434, .str (Str.ofString "/claim/cut.py") 2435, .int 96 0, .int 1 0, .int 0 0, .int 0 0, .int 3 0, .ref 162, .bool true, .int 276 0, .ref 163, .none, .ref 164, .ref 165, .ref 166, .int 2438 0, .int 96 0, .str (Str.ofString "/claim/cut.py") 2439].toArray, #[]⟩
noncomputable def o168 (_ : Params) : Obj := ⟨.type "function", none, .func ({ name := (Str.ofString "_law_letter"), qualname := (Str.ofString "_law_letter"), params := fA 20, body := .stmts (fB 20), scope := fS 20, globals := 3, closure := [], defaults := .none, kwdefaults := .none, doc := .none, pyModule := .str (Str.ofString "law_st0031_01") 2423, annotations := none, code := .ref 167, closureTuple := .none, builtins := 0 }), #[]⟩
noncomputable def o169 (_ : Params) : Obj := ⟨.type "tuple", none, .seq [].toArray 0, #[]⟩
noncomputable def o170 (_ : Params) : Obj := ⟨.none, none, .fields [].toArray, #[]⟩
noncomputable def o171 (_ : Params) : Obj := ⟨.type "tuple", none, .seq [.str (Str.ofString "n") 2444, .str (Str.ofString "codes") 2445].toArray 0, #[]⟩
noncomputable def o172 (_ : Params) : Obj := ⟨.type "tuple", none, .seq [].toArray 0, #[]⟩
noncomputable def o173 (_ : Params) : Obj := ⟨.none, none, .func ({ name := (Str.ofString "_law_plain"), qualname := (Str.ofString "_law_plain"), params := fA 21, body := .stmts (fB 21), scope := fS 21, globals := 0, closure := [], defaults := .none, kwdefaults := .none, doc := .none, pyModule := .none, annotations := none, code := .none, closureTuple := .none, builtins := 0 }), #[]⟩
noncomputable def o174 (_ : Params) : Obj := ⟨.type "code", none, .fields [.str (Str.ofString "_law_plain") 2441, .str (Str.ofString "_law_plain") 2442, .str (Str.ofString "/claim/cut.py") 2443, .int 99 0, .int 1 0, .int 0 0, .int 0 0, .int 3 0, .ref 169, .bool true, .int 276 0, .ref 170, .none, .ref 171, .ref 172, .ref 173, .int 2446 0, .int 99 0, .str (Str.ofString "/claim/cut.py") 2447].toArray, #[]⟩
noncomputable def o175 (_ : Params) : Obj := ⟨.type "function", none, .func ({ name := (Str.ofString "_law_plain"), qualname := (Str.ofString "_law_plain"), params := fA 21, body := .stmts (fB 21), scope := fS 21, globals := 3, closure := [], defaults := .none, kwdefaults := .none, doc := .none, pyModule := .str (Str.ofString "law_st0031_01") 2423, annotations := none, code := .ref 174, closureTuple := .none, builtins := 0 }), #[]⟩
noncomputable def o176 (_ : Params) : Obj := ⟨.type "tuple", none, .seq [].toArray 0, #[]⟩
noncomputable def o177 (_ : Params) : Obj := ⟨.none, none, .fields [].toArray, #[]⟩
noncomputable def o178 (_ : Params) : Obj := ⟨.type "tuple", none, .seq [.str (Str.ofString "n") 2452, .str (Str.ofString "words") 2453, .str (Str.ofString "code") 2454, .str (Str.ofString "word") 2455].toArray 0, #[]⟩
noncomputable def o179 (_ : Params) : Obj := ⟨.type "tuple", none, .seq [].toArray 0, #[]⟩
noncomputable def o180 (_ : Params) : Obj := ⟨.none, none, .func ({ name := (Str.ofString "_law_word"), qualname := (Str.ofString "_law_word"), params := fA 22, body := .stmts (fB 22), scope := fS 22, globals := 0, closure := [], defaults := .none, kwdefaults := .none, doc := .none, pyModule := .none, annotations := none, code := .none, closureTuple := .none, builtins := 0 }), #[]⟩
noncomputable def o181 (_ : Params) : Obj := ⟨.type "code", none, .fields [.str (Str.ofString "_law_word") 2449, .str (Str.ofString "_law_word") 2450, .str (Str.ofString "/claim/cut.py") 2451, .int 103 0, .int 1 0, .int 0 0, .int 0 0, .int 3 0, .ref 176, .bool true, .int 276 0, .ref 177, .none, .ref 178, .ref 179, .ref 180, .int 2456 0, .int 103 0, .str (Str.ofString "/claim/cut.py") 2457].toArray, #[]⟩
noncomputable def o182 (_ : Params) : Obj := ⟨.type "function", none, .func ({ name := (Str.ofString "_law_word"), qualname := (Str.ofString "_law_word"), params := fA 22, body := .stmts (fB 22), scope := fS 22, globals := 3, closure := [], defaults := .none, kwdefaults := .none, doc := .none, pyModule := .str (Str.ofString "law_st0031_01") 2423, annotations := none, code := .ref 181, closureTuple := .none, builtins := 0 }), #[]⟩
noncomputable def o183 (_ : Params) : Obj := ⟨.type "tuple", none, .seq [].toArray 0, #[]⟩
noncomputable def o184 (_ : Params) : Obj := ⟨.none, none, .fields [].toArray, #[]⟩
noncomputable def o185 (_ : Params) : Obj := ⟨.type "tuple", none, .seq [.str (Str.ofString "text") 2462, .str (Str.ofString "kept") 2463, .str (Str.ofString "sign") 2464, .str (Str.ofString "told") 2465].toArray 0, #[]⟩
noncomputable def o186 (_ : Params) : Obj := ⟨.type "tuple", none, .seq [].toArray 0, #[]⟩
noncomputable def o187 (_ : Params) : Obj := ⟨.none, none, .func ({ name := (Str.ofString "_law_prepared"), qualname := (Str.ofString "_law_prepared"), params := fA 23, body := .stmts (fB 23), scope := fS 23, globals := 0, closure := [], defaults := .none, kwdefaults := .none, doc := .none, pyModule := .none, annotations := none, code := .none, closureTuple := .none, builtins := 0 }), #[]⟩
noncomputable def o188 (_ : Params) : Obj := ⟨.type "code", none, .fields [.str (Str.ofString "_law_prepared") 2459, .str (Str.ofString "_law_prepared") 2460, .str (Str.ofString "/claim/cut.py") 2461, .int 109 0, .int 1 0, .int 0 0, .int 0 0, .int 3 0, .ref 183, .bool true, .int 276 0, .ref 184, .none, .ref 185, .ref 186, .ref 187, .int 2466 0, .int 109 0, .str (Str.ofString "/claim/cut.py") 2467].toArray, #[]⟩
noncomputable def o189 (_ : Params) : Obj := ⟨.type "function", none, .func ({ name := (Str.ofString "_law_prepared"), qualname := (Str.ofString "_law_prepared"), params := fA 23, body := .stmts (fB 23), scope := fS 23, globals := 3, closure := [], defaults := .none, kwdefaults := .none, doc := .none, pyModule := .str (Str.ofString "law_st0031_01") 2423, annotations := none, code := .ref 188, closureTuple := .none, builtins := 0 }), #[]⟩
noncomputable def o190 (_ : Params) : Obj := ⟨.type "tuple", none, .seq [].toArray 0, #[]⟩
noncomputable def o191 (_ : Params) : Obj := ⟨.none, none, .fields [].toArray, #[]⟩
noncomputable def o192 (_ : Params) : Obj := ⟨.type "tuple", none, .seq [.str (Str.ofString "n") 2472, .str (Str.ofString "kind") 2473, .str (Str.ofString "rest") 2474].toArray 0, #[]⟩
noncomputable def o193 (_ : Params) : Obj := ⟨.type "tuple", none, .seq [].toArray 0, #[]⟩
noncomputable def o194 (_ : Params) : Obj := ⟨.none, none, .func ({ name := (Str.ofString "_law_sign"), qualname := (Str.ofString "_law_sign"), params := fA 24, body := .stmts (fB 24), scope := fS 24, globals := 0, closure := [], defaults := .none, kwdefaults := .none, doc := .none, pyModule := .none, annotations := none, code := .none, closureTuple := .none, builtins := 0 }), #[]⟩
noncomputable def o195 (_ : Params) : Obj := ⟨.type "code", none, .fields [.str (Str.ofString "_law_sign") 2469, .str (Str.ofString "_law_sign") 2470, .str (Str.ofString "/claim/cut.py") 2471, .int 118 0, .int 1 0, .int 0 0, .int 0 0, .int 3 0, .ref 190, .bool true, .int 276 0, .ref 191, .none, .ref 192, .ref 193, .ref 194, .int 2475 0, .int 118 0, .str (Str.ofString "/claim/cut.py") 2476].toArray, #[]⟩
noncomputable def o196 (_ : Params) : Obj := ⟨.type "function", none, .func ({ name := (Str.ofString "_law_sign"), qualname := (Str.ofString "_law_sign"), params := fA 24, body := .stmts (fB 24), scope := fS 24, globals := 3, closure := [], defaults := .none, kwdefaults := .none, doc := .none, pyModule := .str (Str.ofString "law_st0031_01") 2423, annotations := none, code := .ref 195, closureTuple := .none, builtins := 0 }), #[]⟩
noncomputable def o197 (_ : Params) : Obj := ⟨.type "tuple", none, .seq [].toArray 0, #[]⟩
noncomputable def o198 (_ : Params) : Obj := ⟨.none, none, .fields [].toArray, #[]⟩
noncomputable def o199 (_ : Params) : Obj := ⟨.type "tuple", none, .seq [.str (Str.ofString "text") 2481, .str (Str.ofString "escape") 2482].toArray 0, #[]⟩
noncomputable def o200 (_ : Params) : Obj := ⟨.type "tuple", none, .seq [].toArray 0, #[]⟩
noncomputable def o201 (_ : Params) : Obj := ⟨.none, none, .func ({ name := (Str.ofString "_law_write"), qualname := (Str.ofString "_law_write"), params := fA 25, body := .stmts (fB 25), scope := fS 25, globals := 0, closure := [], defaults := .none, kwdefaults := .none, doc := .none, pyModule := .none, annotations := none, code := .none, closureTuple := .none, builtins := 0 }), #[]⟩
noncomputable def o202 (_ : Params) : Obj := ⟨.type "code", none, .fields [.str (Str.ofString "_law_write") 2478, .str (Str.ofString "_law_write") 2479, .str (Str.ofString "/claim/cut.py") 2480, .int 133 0, .int 2 0, .int 0 0, .int 0 0, .int 3 0, .ref 197, .bool true, .int 276 0, .ref 198, .none, .ref 199, .ref 200, .ref 201, .int 2483 0, .int 133 0, .str (Str.ofString "/claim/cut.py") 2484].toArray, #[]⟩
noncomputable def o203 (_ : Params) : Obj := ⟨.type "function", none, .func ({ name := (Str.ofString "_law_write"), qualname := (Str.ofString "_law_write"), params := fA 25, body := .stmts (fB 25), scope := fS 25, globals := 3, closure := [], defaults := .none, kwdefaults := .none, doc := .none, pyModule := .str (Str.ofString "law_st0031_01") 2423, annotations := none, code := .ref 202, closureTuple := .none, builtins := 0 }), #[]⟩
noncomputable def o204 (_ : Params) : Obj := ⟨.type "tuple", none, .seq [].toArray 0, #[]⟩
noncomputable def o205 (_ : Params) : Obj := ⟨.none, none, .fields [].toArray, #[]⟩
noncomputable def o206 (_ : Params) : Obj := ⟨.type "tuple", none, .seq [.str (Str.ofString "sign") 2489, .str (Str.ofString "escape") 2490, .str (Str.ofString "names") 2491].toArray 0, #[]⟩
noncomputable def o207 (_ : Params) : Obj := ⟨.type "tuple", none, .seq [].toArray 0, #[]⟩
noncomputable def o208 (_ : Params) : Obj := ⟨.none, none, .func ({ name := (Str.ofString "_law_name"), qualname := (Str.ofString "_law_name"), params := fA 26, body := .stmts (fB 26), scope := fS 26, globals := 0, closure := [], defaults := .none, kwdefaults := .none, doc := .none, pyModule := .none, annotations := none, code := .none, closureTuple := .none, builtins := 0 }), #[]⟩
noncomputable def o209 (_ : Params) : Obj := ⟨.type "code", none, .fields [.str (Str.ofString "_law_name") 2486, .str (Str.ofString "_law_name") 2487, .str (Str.ofString "/claim/cut.py") 2488, .int 143 0, .int 2 0, .int 0 0, .int 0 0, .int 3 0, .ref 204, .bool true, .int 276 0, .ref 205, .none, .ref 206, .ref 207, .ref 208, .int 2492 0, .int 143 0, .str (Str.ofString "/claim/cut.py") 2493].toArray, #[]⟩
noncomputable def o210 (_ : Params) : Obj := ⟨.type "function", none, .func ({ name := (Str.ofString "_law_name"), qualname := (Str.ofString "_law_name"), params := fA 26, body := .stmts (fB 26), scope := fS 26, globals := 3, closure := [], defaults := .none, kwdefaults := .none, doc := .none, pyModule := .str (Str.ofString "law_st0031_01") 2423, annotations := none, code := .ref 209, closureTuple := .none, builtins := 0 }), #[]⟩
noncomputable def o211 (_ : Params) : Obj := ⟨.type "tuple", none, .seq [].toArray 0, #[]⟩
noncomputable def o212 (_ : Params) : Obj := ⟨.none, none, .fields [].toArray, #[]⟩
noncomputable def o213 (_ : Params) : Obj := ⟨.type "tuple", none, .seq [.str (Str.ofString "signs") 2498, .str (Str.ofString "escape") 2499, .str (Str.ofString "order") 2500, .str (Str.ofString "prepared") 2501, .str (Str.ofString "written") 2502, .str (Str.ofString "sent") 2503, .str (Str.ofString "due") 2504, .str (Str.ofString "fresh") 2505, .str (Str.ofString "half") 2506, .str (Str.ofString "spelled") 2507, .str (Str.ofString "meant") 2508, .str (Str.ofString "out") 2509, .str (Str.ofString "end") 2510].toArray 0, #[]⟩
noncomputable def o214 (_ : Params) : Obj := ⟨.type "tuple", none, .seq [].toArray 0, #[]⟩
noncomputable def o215 (_ : Params) : Obj := ⟨.none, none, .func ({ name := (Str.ofString "_law_due"), qualname := (Str.ofString "_law_due"), params := fA 27, body := .stmts (fB 27), scope := fS 27, globals := 0, closure := [], defaults := .none, kwdefaults := .none, doc := .none, pyModule := .none, annotations := none, code := .none, closureTuple := .none, builtins := 0 }), #[]⟩
noncomputable def o216 (_ : Params) : Obj := ⟨.type "code", none, .fields [.str (Str.ofString "_law_due") 2495, .str (Str.ofString "_law_due") 2496, .str (Str.ofString "/claim/cut.py") 2497, .int 150 0, .int 3 0, .int 0 0, .int 0 0, .int 3 0, .ref 211, .bool true, .int 276 0, .ref 212, .none, .ref 213, .ref 214, .ref 215, .int 2511 0, .int 150 0, .str (Str.ofString "/claim/cut.py") 2512].toArray, #[]⟩
noncomputable def o217 (_ : Params) : Obj := ⟨.type "function", none, .func ({ name := (Str.ofString "_law_due"), qualname := (Str.ofString "_law_due"), params := fA 27, body := .stmts (fB 27), scope := fS 27, globals := 3, closure := [], defaults := .none, kwdefaults := .none, doc := .none, pyModule := .str (Str.ofString "law_st0031_01") 2423, annotations := none, code := .ref 216, closureTuple := .none, builtins := 0 }), #[]⟩
noncomputable def o218 (_ : Params) : Obj := ⟨.type "tuple", none, .seq [].toArray 0, #[]⟩
noncomputable def o219 (_ : Params) : Obj := ⟨.none, none, .fields [].toArray, #[]⟩
noncomputable def o220 (_ : Params) : Obj := ⟨.none, none, .func ({ name := (Str.ofString "law"), qualname := (Str.ofString "law"), params := fA 28, body := .stmts (fB 28), scope := fS 28, globals := 0, closure := [], defaults := .none, kwdefaults := .none, doc := .none, pyModule := .none, annotations := none, code := .none, closureTuple := .none, builtins := 0 }), #[]⟩
noncomputable def o221 (_ : Params) : Obj := ⟨.type "code", none, .fields [.str (Str.ofString "law") 2514, .str (Str.ofString "law") 2515, .str (Str.ofString "/claim/cut.py") 2516, .int 175 0, .int 1 0, .int 0 0, .int 0 0, .int 3 0, .ref 218, .bool true, .int 276 0, .ref 219, .none, .none, .none, .ref 220, .int 2517 0, .int 175 0, .str (Str.ofString "/claim/cut.py") 2518].toArray, #[]⟩
noncomputable def o222 (_ : Params) : Obj := ⟨.type "function", none, .func ({ name := (Str.ofString "law"), qualname := (Str.ofString "law"), params := fA 28, body := .stmts (fB 28), scope := fS 28, globals := 3, closure := [], defaults := .none, kwdefaults := .none, doc := .none, pyModule := .str (Str.ofString "law_st0031_01") 2423, annotations := none, code := .ref 221, closureTuple := .none, builtins := 0 }), #[]⟩
noncomputable def Tb (P : Params) : BT := (.node (o0 P) (.node (o1 P) (.node (o3s P) (.node (o7 P) (.node (o15 P) (.node (o31 P) .nil .nil) .nil) (.node (o23 P) .nil .nil)) (.node (o11 P) (.node (o19 P) .nil .nil) (.node (o27 P) .nil .nil))) (.node (o5 P) (.node (o9 P) (.node (o17 P) .nil .nil) (.node (o25 P) .nil .nil)) (.node (o13 P) (.node (o21 P) .nil .nil) (.node (o29b P) .nil .nil)))) (.node (o2 P) (.node (o4 P) (.node (o8 P) (.node (o16 P) .nil .nil) (.node (o24 P) .nil .nil)) (.node (o12 P) (.node (o20 P) .nil .nil) (.node (o28 P) .nil .nil))) (.node (o6 P) (.node (o10 P) (.node (o18 P) .nil .nil) (.node (o26 P) .nil .nil)) (.node (o14 P) (.node (o22 P) .nil .nil) (.node (o30 P) .nil .nil)))))
noncomputable def Tc (P : Params) : BT := (.node (o0 P) (.node (o1 P) (.node (o3c P) (.node (o7 P) (.node (o15 P) (.node (o31 P) (.node (o63 P) .nil .nil) .nil) (.node (o47 P) (.node (o79 P) .nil .nil) .nil)) (.node (o23 P) (.node (o39 P) (.node (o71 P) .nil .nil) .nil) (.node (o55 P) (.node (o87 P) .nil .nil) .nil))) (.node (o11 P) (.node (o19 P) (.node (o35 P) (.node (o67 P) .nil .nil) .nil) (.node (o51 P) (.node (o83 P) .nil .nil) .nil)) (.node (o27 P) (.node (o43 P) (.node (o75 P) .nil .nil) .nil) (.node (o59 P) .nil .nil)))) (.node (o5 P) (.node (o9 P) (.node (o17 P) (.node (o33 P) (.node (o65 P) .nil .nil) .nil) (.node (o49 P) (.node (o81 P) .nil .nil) .nil)) (.node (o25 P) (.node (o41 P) (.node (o73 P) .nil .nil) .nil) (.node (o57 P) (.node (o89 P) .nil .nil) .nil))) (.node (o13 P) (.node (o21 P) (.node (o37 P) (.node (o69 P) .nil .nil) .nil) (.node (o53 P) (.node (o85 P) .nil .nil) .nil)) (.node (o29c P) (.node (o45 P) (.node (o77 P) .nil .nil) .nil) (.node (o61 P) .nil .nil))))) (.node (o2 P) (.node (o4 P) (.node (o8 P) (.node (o16 P) (.node (o32 P) (.node (o64 P) .nil .nil) .nil) (.node (o48 P) (.node (o80 P) .nil .nil) .nil)) (.node (o24 P) (.node (o40 P) (.node (o72 P) .nil .nil) .nil) (.node (o56 P) (.node (o88 P) .nil .nil) .nil))) (.node (o12 P) (.node (o20 P) (.node (o36 P) (.node (o68 P) .nil .nil) .nil) (.node (o52 P) (.node (o84 P) .nil .nil) .nil)) (.node (o28 P) (.node (o44 P) (.node (o76 P) .nil .nil) .nil) (.node (o60 P) .nil .nil)))) (.node (o6 P) (.node (o10 P) (.node (o18 P) (.node (o34 P) (.node (o66 P) .nil .nil) .nil) (.node (o50 P) (.node (o82 P) .nil .nil) .nil)) (.node (o26 P) (.node (o42 P) (.node (o74 P) .nil .nil) .nil) (.node (o58 P) (.node (o90 P) .nil .nil) .nil))) (.node (o14 P) (.node (o22 P) (.node (o38 P) (.node (o70 P) .nil .nil) .nil) (.node (o54 P) (.node (o86 P) .nil .nil) .nil)) (.node (o30 P) (.node (o46 P) (.node (o78 P) .nil .nil) .nil) (.node (o62 P) .nil .nil))))))
noncomputable def Td (P : Params) : BT := (.node (o0 P) (.node (o1 P) (.node (o3d P) (.node (o7 P) (.node (o15 P) (.node (o31 P) (.node (o63 P) .nil .nil) (.node (o95 P) .nil .nil)) (.node (o47 P) (.node (o79 P) .nil .nil) .nil)) (.node (o23 P) (.node (o39 P) (.node (o71 P) .nil .nil) .nil) (.node (o55 P) (.node (o87 P) .nil .nil) .nil))) (.node (o11 P) (.node (o19 P) (.node (o35 P) (.node (o67 P) .nil .nil) (.node (o99 P) .nil .nil)) (.node (o51 P) (.node (o83 P) .nil .nil) .nil)) (.node (o27 P) (.node (o43 P) (.node (o75 P) .nil .nil) .nil) (.node (o59 P) (.node (o91 P) .nil .nil) .nil)))) (.node (o5 P) (.node (o9 P) (.node (o17 P) (.node (o33 P) (.node (o65 P) .nil .nil) (.node (o97 P) .nil .nil)) (.node (o49 P) (.node (o81 P) .nil .nil) .nil)) (.node (o25 P) (.node (o41 P) (.node (o73 P) .nil .nil) .nil) (.node (o57 P) (.node (o89 P) .nil .nil) .nil))) (.node (o13 P) (.node (o21 P) (.node (o37 P) (.node (o69 P) .nil .nil) (.node (o101 P) .nil .nil)) (.node (o53 P) (.node (o85 P) .nil .nil) .nil)) (.node (o29c P) (.node (o45 P) (.node (o77 P) .nil .nil) .nil) (.node (o61 P) (.node (o93 P) .nil .nil) .nil))))) (.node (o2 P) (.node (o4 P) (.node (o8 P) (.node (o16 P) (.node (o32 P) (.node (o64 P) .nil .nil) (.node (o96 P) .nil .nil)) (.node (o48 P) (.node (o80 P) .nil .nil) .nil)) (.node (o24 P) (.node (o40 P) (.node (o72 P) .nil .nil) .nil) (.node (o56 P) (.node (o88 P) .nil .nil) .nil))) (.node (o12 P) (.node (o20 P) (.node (o36 P) (.node (o68 P) .nil .nil) (.node (o100 P) .nil .nil)) (.node (o52 P) (.node (o84 P) .nil .nil) .nil)) (.node (o28 P) (.node (o44 P) (.node (o76 P) .nil .nil) .nil) (.node (o60 P) (.node (o92 P) .nil .nil) .nil)))) (.node (o6 P) (.node (o10 P) (.node (o18 P) (.node (o34 P) (.node (o66 P) .nil .nil) (.node (o98 P) .nil .nil)) (.node (o50 P) (.node (o82 P) .nil .nil) .nil)) (.node (o26 P) (.node (o42 P) (.node (o74 P) .nil .nil) .nil) (.node (o58 P) (.node (o90 P) .nil .nil) .nil))) (.node (o14 P) (.node (o22 P) (.node (o38 P) (.node (o70 P) .nil .nil) .nil) (.node (o54 P) (.node (o86 P) .nil .nil) .nil)) (.node (o30 P) (.node (o46 P) (.node (o78 P) .nil .nil) .nil) (.node (o62 P) (.node (o94 P) .nil .nil) .nil))))))
noncomputable def Te (P : Params) : BT := (.node (o0 P) (.node (o1 P) (.node (o3e P) (.node (o7 P) (.node (o15 P) (.node (o31 P) (.node (o63 P) .nil .nil) (.node (o95 P) .nil .nil)) (.node (o47 P) (.node (o79 P) .nil .nil) .nil)) (.node (o23 P) (.node (o39 P) (.node (o71 P) .nil .nil) (.node (o103 P) .nil .nil)) (.node (o55 P) (.node (o87 P) .nil .nil) .nil))) (.node (o11 P) (.node (o19 P) (.node (o35 P) (.node (o67 P) .nil .nil) (.node (o99 P) .nil .nil)) (.node (o51 P) (.node (o83 P) .nil .nil) .nil)) (.node (o27 P) (.node (o43 P) (.node (o75 P) .nil .nil) (.node (o107 P) .nil .nil)) (.node (o59 P) (.node (o91 P) .nil .nil) .nil)))) (.node (o5 P) (.node (o9 P) (.node (o17 P) (.node (o33 P) (.node (o65 P) .nil .nil) (.node (o97 P) .nil .nil)) (.node (o49 P) (.node (o81 P) .nil .nil) .nil)) (.node (o25 P) (.node (o41 P) (.node (o73 P) .nil .nil) (.node (o105 P) .nil .nil)) (.node (o57 P) (.node (o89 P) .nil .nil) .nil))) (.node (o13 P) (.node (o21 P) (.node (o37 P) (.node (o69 P) .nil .nil) (.node (o101 P) .nil .nil)) (.node (o53 P) (.node (o85 P) .nil .nil) .nil)) (.node (o29e P) (.node (o45 P) (.node (o77 P) .nil .nil) .nil) (.node (o61 P) (.node (o93 P) .nil .nil) .nil))))) (.node (o2 P) (.node (o4 P) (.node (o8 P) (.node (o16 P) (.node (o32 P) (.node (o64 P) .nil .nil) (.node (o96 P) .nil .nil)) (.node (o48 P) (.node (o80 P) .nil .nil) .nil)) (.node (o24 P) (.node (o40 P) (.node (o72 P) .nil .nil) (.node (o104 P) .nil .nil)) (.node (o56 P) (.node (o88 P) .nil .nil) .nil))) (.node (o12 P) (.node (o20 P) (.node (o36 P) (.node (o68 P) .nil .nil) (.node (o100 P) .nil .nil)) (.node (o52 P) (.node (o84 P) .nil .nil) .nil)) (.node (o28 P) (.node (o44 P) (.node (o76 P) .nil .nil) (.node (o108 P) .nil .nil)) (.node (o60 P) (.node (o92 P) .nil .nil) .nil)))) (.node (o6 P) (.node (o10 P) (.node (o18 P) (.node (o34 P) (.node (o66 P) .nil .nil) (.node (o98 P) .nil .nil)) (.node (o50 P) (.node (o82 P) .nil .nil) .nil)) (.node (o26 P) (.node (o42 P) (.node (o74 P) .nil .nil) (.node (o106 P) .nil .nil)) (.node (o58 P) (.node (o90 P) .nil .nil) .nil))) (.node (o14 P) (.node (o22 P) (.node (o38 P) (.node (o70 P) .nil .nil) (.node (o102 P) .nil .nil)) (.node (o54 P) (.node (o86 P) .nil .nil) .nil)) (.node (o30 P) (.node (o46 P) (.node (o78 P) .nil .nil) .nil) (.node (o62 P) (.node (o94 P) .nil .nil) .nil))))))
noncomputable def Tf (P : Params) : BT := (.node (o0 P) (.node (o1 P) (.node (o3f P) (.node (o7 P) (.node (o15 P) (.node (o31 P) (.node (o63 P) (.node (o127 P) .nil .nil) .nil) (.node (o95 P) .nil .nil)) (.node (o47 P) (.node (o79 P) (.node (o143 P) .nil .nil) .nil) (.node (o111 P) .nil .nil))) (.node (o23 P) (.node (o39 P) (.node (o71 P) (.node (o135 P) .nil .nil) .nil) (.node (o103 P) .nil .nil)) (.node (o55 P) (.node (o87 P) .nil .nil) (.node (o119 P) .nil .nil)))) (.node (o11 P) (.node (o19 P) (.node (o35 P) (.node (o67 P) (.node (o131 P) .nil .nil) .nil) (.node (o99 P) .nil .nil)) (.node (o51 P) (.node (o83 P) (.node (o147 P) .nil .nil) .nil) (.node (o115 P) .nil .nil))) (.node (o27 P) (.node (o43 P) (.node (o75 P) (.node (o139 P) .nil .nil) .nil) (.node (o107 P) .nil .nil)) (.node (o59 P) (.node (o91 P) .nil .nil) (.node (o123 P) .nil .nil))))) (.node (o5 P) (.node (o9 P) (.node (o17 P) (.node (o33 P) (.node (o65 P) (.node (o129 P) .nil .nil) .nil) (.node (o97 P) .nil .nil)) (.node (o49 P) (.node (o81 P) (.node (o145 P) .nil .nil) .nil) (.node (o113 P) .nil .nil))) (.node (o25 P) (.node (o41 P) (.node (o73 P) (.node (o137 P) .nil .nil) .nil) (.node (o105 P) .nil .nil)) (.node (o57 P) (.node (o89 P) .nil .nil) (.node (o121 P) .nil .nil)))) (.node (o13 P) (.node (o21 P) (.node (o37 P) (.node (o69 P) (.node (o133 P) .nil .nil) .nil) (.node (o101 P) .nil .nil)) (.node (o53 P) (.node (o85 P) .nil .nil) (.node (o117 P) .nil .nil))) (.node (o29e P) (.node (o45 P) (.node (o77 P) (.node (o141 P) .nil .nil) .nil) (.node (o109 P) .nil .nil)) (.node (o61 P) (.node (o93 P) .nil .nil) (.node (o125 P) .nil .nil)))))) (.node (o2 P) (.node (o4 P) (.node (o8 P) (.node (o16 P) (.node (o32 P) (.node (o64 P) (.node (o128 P) .nil .nil) .nil) (.node (o96 P) .nil .nil)) (.node (o48 P) (.node (o80 P) (.node (o144 P) .nil .nil) .nil) (.node (o112 P) .nil .nil))) (.node (o24 P) (.node (o40 P) (.node (o72 P) (.node (o136 P) .nil .nil) .nil) (.node (o104 P) .nil .nil)) (.node (o56 P) (.node (o88 P) .nil .nil) (.node (o120 P) .nil .nil)))) (.node (o12 P) (.node (o20 P) (.node (o36 P) (.node (o68 P) (.node (o132 P) .nil .nil) .nil) (.node (o100 P) .nil .nil)) (.node (o52 P) (.node (o84 P) .nil .nil) (.node (o116 P) .nil .nil))) (.node (o28 P) (.node (o44 P) (.node (o76 P) (.node (o140 P) .nil .nil) .nil) (.node (o108 P) .nil .nil)) (.node (o60 P) (.node (o92 P) .nil .nil) (.node (o124 P) .nil .nil))))) (.node (o6 P) (.node (o10 P) (.node (o18 P) (.node (o34 P) (.node (o66 P) (.node (o130 P) .nil .nil) .nil) (.node (o98 P) .nil .nil)) (.node (o50 P) (.node (o82 P) (.node (o146 P) .nil .nil) .nil) (.node (o114 P) .nil .nil))) (.node (o26 P) (.node (o42 P) (.node (o74 P) (.node (o138 P) .nil .nil) .nil) (.node (o106 P) .nil .nil)) (.node (o58 P) (.node (o90 P) .nil .nil) (.node (o122 P) .nil .nil)))) (.node (o14 P) (.node (o22 P) (.node (o38 P) (.node (o70 P) (.node (o134 P) .nil .nil) .nil) (.node (o102 P) .nil .nil)) (.node (o54 P) (.node (o86 P) .nil .nil) (.node (o118 P) .nil .nil))) (.node (o30 P) (.node (o46 P) (.node (o78 P) (.node (o142 P) .nil .nil) .nil) (.node (o110 P) .nil .nil)) (.node (o62 P) (.node (o94 P) .nil .nil) (.node (o126 P) .nil .nil)))))))
noncomputable def Tg (P : Params) : BT := (.node (o0 P) (.node (o1 P) (.node (o3 P) (.node (o7 P) (.node (o15 P) (.node (o31 P) (.node (o63 P) (.node (o127 P) .nil .nil) (.node (o191 P) .nil .nil)) (.node (o95 P) (.node (o159 P) .nil .nil) .nil)) (.node (o47 P) (.node (o79 P) (.node (o143 P) .nil .nil) (.node (o207 P) .nil .nil)) (.node (o111 P) (.node (o175 P) .nil .nil) .nil))) (.node (o23 P) (.node (o39 P) (.node (o71 P) (.node (o135 P) .nil .nil) (.node (o199 P) .nil .nil)) (.node (o103 P) (.node (o167 P) .nil .nil) .nil)) (.node (o55 P) (.node (o87 P) (.node (o151 P) .nil .nil) (.node (o215 P) .nil .nil)) (.node (o119 P) (.node (o183 P) .nil .nil) .nil)))) (.node (o11 P) (.node (o19 P) (.node (o35 P) (.node (o67 P) (.node (o131 P) .nil .nil) (.node (o195 P) .nil .nil)) (.node (o99 P) (.node (o163 P) .nil .nil) .nil)) (.node (o51 P) (.node (o83 P) (.node (o147 P) .nil .nil) (.node (o211 P) .nil .nil)) (.node (o115 P) (.node (o179 P) .nil .nil) .nil))) (.node (o27 P) (.node (o43 P) (.node (o75 P) (.node (o139 P) .nil .nil) (.node (o203 P) .nil .nil)) (.node (o107 P) (.node (o171 P) .nil .nil) .nil)) (.node (o59 P) (.node (o91 P) (.node (o155 P) .nil .nil) (.node (o219 P) .nil .nil)) (.node (o123 P) (.node (o187 P) .nil .nil) .nil))))) (.node (o5 P) (.node (o9 P) (.node (o17 P) (.node (o33 P) (.node (o65 P) (.node (o129 P) .nil .nil) (.node (o193 P) .nil .nil)) (.node (o97 P) (.node (o161 P) .nil .nil) .nil)) (.node (o49 P) (.node (o81 P) (.node (o145 P) .nil .nil) (.node (o209 P) .nil .nil)) (.node (o113 P) (.node (o177 P) .nil .nil) .nil))) (.node (o25 P) (.node (o41 P) (.node (o73 P) (.node (o137 P) .nil .nil) (.node (o201 P) .nil .nil)) (.node (o105 P) (.node (o169 P) .nil .nil) .nil)) (.node (o57 P) (.node (o89 P) (.node (o153 P) .nil .nil) (.node (o217 P) .nil .nil)) (.node (o121 P) (.node (o185 P) .nil .nil) .nil)))) (.node (o13 P) (.node (o21 P) (.node (o37 P) (.node (o69 P) (.node (o133 P) .nil .nil) (.node (o197 P) .nil .nil)) (.node (o101 P) (.node (o165 P) .nil .nil) .nil)) (.node (o53 P) (.node (o85 P) (.node (o149 P) .nil .nil) (.node (o213 P) .nil .nil)) (.node (o117 P) (.node (o181 P) .nil .nil) .nil))) (.node (o29 P) (.node (o45 P) (.node (o77 P) (.node (o141 P) .nil .nil) (.node (o205 P) .nil .nil)) (.node (o109 P) (.node (o173 P) .nil .nil) .nil)) (.node (o61 P) (.node (o93 P) (.node (o157 P) .nil .nil) (.node (o221 P) .nil .nil)) (.node (o125 P) (.node (o189 P) .nil .nil) .nil)))))) (.node (o2 P) (.node (o4 P) (.node (o8 P) (.node (o16 P) (.node (o32 P) (.node (o64 P) (.node (o128 P) .nil .nil) (.node (o192 P) .nil .nil)) (.node (o96 P) (.node (o160 P) .nil .nil) .nil)) (.node (o48 P) (.node (o80 P) (.node (o144 P) .nil .nil) (.node (o208 P) .nil .nil)) (.node (o112 P) (.node (o176 P) .nil .nil) .nil))) (.node (o24 P) (.node (o40 P) (.node (o72 P) (.node (o136 P) .nil .nil) (.node (o200 P) .nil .nil)) (.node (o104 P) (.node (o168 P) .nil .nil) .nil)) (.node (o56 P) (.node (o88 P) (.node (o152 P) .nil .nil) (.node (o216 P) .nil .nil)) (.node (o120 P) (.node (o184 P) .nil .nil) .nil)))) (.node (o12 P) (.node (o20 P) (.node (o36 P) (.node (o68 P) (.node (o132 P) .nil .nil) (.node (o196 P) .nil .nil)) (.node (o100 P) (.node (o164 P) .nil .nil) .nil)) (.node (o52 P) (.node (o84 P) (.node (o148 P) .nil .nil) (.node (o212 P) .nil .nil)) (.node (o116 P) (.node (o180 P) .nil .nil) .nil))) (.node (o28 P) (.node (o44 P) (.node (o76 P) (.node (o140 P) .nil .nil) (.node (o204 P) .nil .nil)) (.node (o108 P) (.node (o172 P) .nil .nil) .nil)) (.node (o60 P) (.node (o92 P) (.node (o156 P) .nil .nil) (.node (o220 P) .nil .nil)) (.node (o124 P) (.node (o188 P) .nil .nil) .nil))))) (.node (o6 P) (.node (o10 P) (.node (o18 P) (.node (o34 P) (.node (o66 P) (.node (o130 P) .nil .nil) (.node (o194 P) .nil .nil)) (.node (o98 P) (.node (o162 P) .nil .nil) .nil)) (.node (o50 P) (.node (o82 P) (.node (o146 P) .nil .nil) (.node (o210 P) .nil .nil)) (.node (o114 P) (.node (o178 P) .nil .nil) .nil))) (.node (o26 P) (.node (o42 P) (.node (o74 P) (.node (o138 P) .nil .nil) (.node (o202 P) .nil .nil)) (.node (o106 P) (.node (o170 P) .nil .nil) .nil)) (.node (o58 P) (.node (o90 P) (.node (o154 P) .nil .nil) (.node (o218 P) .nil .nil)) (.node (o122 P) (.node (o186 P) .nil .nil) .nil)))) (.node (o14 P) (.node (o22 P) (.node (o38 P) (.node (o70 P) (.node (o134 P) .nil .nil) (.node (o198 P) .nil .nil)) (.node (o102 P) (.node (o166 P) .nil .nil) .nil)) (.node (o54 P) (.node (o86 P) (.node (o150 P) .nil .nil) (.node (o214 P) .nil .nil)) (.node (o118 P) (.node (o182 P) .nil .nil) .nil))) (.node (o30 P) (.node (o46 P) (.node (o78 P) (.node (o142 P) .nil .nil) (.node (o206 P) .nil .nil)) (.node (o110 P) (.node (o174 P) .nil .nil) .nil)) (.node (o62 P) (.node (o94 P) (.node (o158 P) .nil .nil) (.node (o222 P) .nil .nil)) (.node (o126 P) (.node (o190 P) .nil .nil) .nil)))))))
noncomputable def H0 (P : Params) : Heap := ⟨[o0 P, o1 P, o2 P, o3s P, o4 P, o5 P, o6 P, o7 P, o8 P, o9 P, o10 P, o11 P, o12 P, o13 P, o14 P, o15 P, o16 P, o17 P, o18 P, o19 P, o20 P, o21 P, o22 P, o23 P, o24 P, o25 P, o26 P, o27 P].toArray, {}⟩
noncomputable def Ha (P : Params) : Heap := ⟨[o0 P, o1 P, o2 P, o3s P, o4 P, o5 P, o6 P, o7 P, o8 P, o9 P, o10 P, o11 P, o12 P, o13 P, o14 P, o15 P, o16 P, o17 P, o18 P, o19 P, o20 P, o21 P, o22 P, o23 P, o24 P, o25 P, o26 P, o27 P, o28 P, o29b P, o30 P, o31 P].toArray, {}⟩
noncomputable def Hg (P : Params) : Heap := ⟨[o0 P, o1 P, o2 P, o3 P, o4 P, o5 P, o6 P, o7 P, o8 P, o9 P, o10 P, o11 P, o12 P, o13 P, o14 P, o15 P, o16 P, o17 P, o18 P, o19 P, o20 P, o21 P, o22 P, o23 P, o24 P, o25 P, o26 P, o27 P, o28 P, o29 P, o30 P, o31 P, o32 P, o33 P, o34 P, o35 P, o36 P, o37 P, o38 P, o39 P, o40 P, o41 P, o42 P, o43 P, o44 P, o45 P, o46 P, o47 P, o48 P, o49 P, o50 P, o51 P, o52 P, o53 P, o54 P, o55 P, o56 P, o57 P, o58 P, o59 P, o60 P, o61 P, o62 P, o63 P, o64 P, o65 P, o66 P, o67 P, o68 P, o69 P, o70 P, o71 P, o72 P, o73 P, o74 P, o75 P, o76 P, o77 P, o78 P, o79 P, o80 P, o81 P, o82 P, o83 P, o84 P, o85 P, o86 P, o87 P, o88 P, o89 P, o90 P, o91 P, o92 P, o93 P, o94 P, o95 P, o96 P, o97 P, o98 P, o99 P, o100 P, o101 P, o102 P, o103 P, o104 P, o105 P, o106 P, o107 P, o108 P, o109 P, o110 P, o111 P, o112 P, o113 P, o114 P, o115 P, o116 P, o117 P, o118 P, o119 P, o120 P, o121 P, o122 P, o123 P, o124 P, o125 P, o126 P, o127 P, o128 P, o129 P, o130 P, o131 P, o132 P, o133 P, o134 P, o135 P, o136 P, o137 P, o138 P, o139 P, o140 P, o141 P, o142 P, o143 P, o144 P, o145 P, o146 P, o147 P, o148 P, o149 P, o150 P, o151 P, o152 P, o153 P, o154 P, o155 P, o156 P, o157 P, o158 P, o159 P, o160 P, o161 P, o162 P, o163 P, o164 P, o165 P, o166 P, o167 P, o168 P, o169 P, o170 P, o171 P, o172 P, o173 P, o174 P, o175 P, o176 P, o177 P, o178 P, o179 P, o180 P, o181 P, o182 P, o183 P, o184 P, o185 P, o186 P, o187 P, o188 P, o189 P, o190 P, o191 P, o192 P, o193 P, o194 P, o195 P, o196 P, o197 P, o198 P, o199 P, o200 P, o201 P, o202 P, o203 P, o204 P, o205 P, o206 P, o207 P, o208 P, o209 P, o210 P, o211 P, o212 P, o213 P, o214 P, o215 P, o216 P, o217 P, o218 P, o219 P, o220 P, o221 P, o222 P].toArray, {}⟩
end
end Mine
set_option Elab.async false
set_option maxRecDepth 100000
namespace Mine
open PySem PySem.W PyProof.Rows
noncomputable section
noncomputable def p0 : Pos := ⟨0, 0, 0, 0⟩
noncomputable def pC : Pos := ⟨82, 0, 82, 8⟩
noncomputable def pD : Pos := ⟨83, 0, 83, 6⟩
noncomputable def pE' : Pos := ⟨84, 0, 85, 30⟩
noncomputable def pF : Pos := ⟨86, 0, 86, 13⟩
noncomputable def pG : Pos := ⟨175, 0, 191, 15⟩
noncomputable def env0 : Env := { scope := pw.main.scope, locals := mainNs, globals := mainNs, cells := [], code := .ref 30, frame := some 31 }
noncomputable def cE : Code := .body (behindTheImports pw) env0
noncomputable def ann : Option Value := some (.ref 6)
noncomputable def fr0 : List Frame := [topFrame p0]
noncomputable def sb (w : World) (os : OsState) : SharedT := ⟨Tb w.params, 32, {}, #[], {}, 282, os⟩
noncomputable def sc (w : World) (os : OsState) : SharedT := ⟨Tc w.params, 91, {}, #[], {}, 397, os⟩
noncomputable def sd (w : World) (os : OsState) : SharedT := ⟨Td w.params, 102, {}, #[], {}, 457, os⟩
noncomputable def se (w : World) (os : OsState) : SharedT := ⟨Te w.params, 109, {}, #[], {}, 464, os⟩
noncomputable def sf (w : World) (os : OsState) : SharedT := ⟨Tf w.params, 148, {}, #[], {}, 2415, os⟩
noncomputable def sg (w : World) (os : OsState) : SharedT := ⟨Tg w.params, 223, {}, #[], {}, 2520, os⟩
noncomputable def stA : List Stmt := (behindTheImports pw).take 13
noncomputable def stB : List Stmt := ((behindTheImports pw).drop 13).take 1
noncomputable def stC : List Stmt := ((behindTheImports pw).drop 14).take 1
noncomputable def stD : List Stmt := ((behindTheImports pw).drop 15).take 1
noncomputable def stE : List Stmt := (behindTheImports pw).drop 16
noncomputable def K (P : Params) : Frag := ((nat_lit 2 : Nat), o2 P) :: ((nat_lit 3 : Nat), o3 P) :: ((nat_lit 32 : Nat), o32 P) :: ((nat_lit 34 : Nat), o34 P) :: ((nat_lit 35 : Nat), o35 P) :: ((nat_lit 37 : Nat), o37 P) :: ((nat_lit 38 : Nat), o38 P) :: ((nat_lit 39 : Nat), o39 P) :: ((nat_lit 41 : Nat), o41 P) :: ((nat_lit 42 : Nat), o42 P) :: ((nat_lit 44 : Nat), o44 P) :: ((nat_lit 45 : Nat), o45 P) :: ((nat_lit 46 : Nat), o46 P) :: ((nat_lit 48 : Nat), o48 P) :: ((nat_lit 49 : Nat), o49 P) :: ((nat_lit 51 : Nat), o51 P) :: ((nat_lit 52 : Nat), o52 P) :: ((nat_lit 53 : Nat), o53 P) :: ((nat_lit 55 : Nat), o55 P) :: ((nat_lit 56 : Nat), o56 P) :: ((nat_lit 58 : Nat), o58 P) :: ((nat_lit 59 : Nat), o59 P) :: ((nat_lit 60 : Nat), o60 P) :: ((nat_lit 62 : Nat), o62 P) :: ((nat_lit 63 : Nat), o63 P) :: ((nat_lit 65 : Nat), o65 P) :: ((nat_lit 66 : Nat), o66 P) :: ((nat_lit 67 : Nat), o67 P) :: ((nat_lit 69 : Nat), o69 P) :: ((nat_lit 70 : Nat), o70 P) :: ((nat_lit 72 : Nat), o72 P) :: ((nat_lit 73 : Nat), o73 P) :: ((nat_lit 74 : Nat), o74 P) :: ((nat_lit 75 : Nat), o75 P) :: ((nat_lit 76 : Nat), o76 P) :: ((nat_lit 77 : Nat), o77 P) :: ((nat_lit 78 : Nat), o78 P) :: ((nat_lit 79 : Nat), o79 P) :: ((nat_lit 80 : Nat), o80 P) :: ((nat_lit 81 : Nat), o81 P) :: ((nat_lit 82 : Nat), o82 P) :: ((nat_lit 83 : Nat), o83 P) :: ((nat_lit 84 : Nat), o84 P) :: ((nat_lit 86 : Nat), o86 P) :: ((nat_lit 87 : Nat), o87 P) :: ((nat_lit 89 : Nat), o89 P) :: ((nat_lit 90 : Nat), o90 P) :: ((nat_lit 98 : Nat), o98 P) :: ((nat_lit 102 : Nat), o102 P) :: ((nat_lit 104 : Nat), o104 P) :: ((nat_lit 105 : Nat), o105 P) :: ((nat_lit 107 : Nat), o107 P) :: ((nat_lit 108 : Nat), o108 P) :: ((nat_lit 109 : Nat), o109 P) :: ((nat_lit 148 : Nat), o148 P) :: ((nat_lit 150 : Nat), o150 P) :: ((nat_lit 151 : Nat), o151 P) :: ((nat_lit 153 : Nat), o153 P) :: ((nat_lit 154 : Nat), o154 P) :: ((nat_lit 155 : Nat), o155 P) :: ((nat_lit 157 : Nat), o157 P) :: ((nat_lit 158 : Nat), o158 P) :: ((nat_lit 160 : Nat), o160 P) :: ((nat_lit 161 : Nat), o161 P) :: ((nat_lit 162 : Nat), o162 P) :: ((nat_lit 164 : Nat), o164 P) :: ((nat_lit 165 : Nat), o165 P) :: ((nat_lit 167 : Nat), o167 P) :: ((nat_lit 168 : Nat), o168 P) :: ((nat_lit 169 : Nat), o169 P) :: ((nat_lit 171 : Nat), o171 P) :: ((nat_lit 172 : Nat), o172 P) :: ((nat_lit 174 : Nat), o174 P) :: ((nat_lit 175 : Nat), o175 P) :: ((nat_lit 176 : Nat), o176 P) :: ((nat_lit 178 : Nat), o178 P) :: ((nat_lit 179 : Nat), o179 P) :: ((nat_lit 181 : Nat), o181 P) :: ((nat_lit 182 : Nat), o182 P) :: ((nat_lit 183 : Nat), o183 P) :: ((nat_lit 185 : Nat), o185 P) :: ((nat_lit 186 : Nat), o186 P) :: ((nat_lit 188 : Nat), o188 P) :: ((nat_lit 189 : Nat), o189 P) :: ((nat_lit 190 : Nat), o190 P) :: ((nat_lit 192 : Nat), o192 P) :: ((nat_lit 193 : Nat), o193 P) :: ((nat_lit 195 : Nat), o195 P) :: ((nat_lit 196 : Nat), o196 P) :: ((nat_lit 197 : Nat), o197 P) :: ((nat_lit 199 : Nat), o199 P) :: ((nat_lit 200 : Nat), o200 P) :: ((nat_lit 202 : Nat), o202 P) :: ((nat_lit 203 : Nat), o203 P) :: ((nat_lit 204 : Nat), o204 P) :: ((nat_lit 206 : Nat), o206 P) :: ((nat_lit 207 : Nat), o207 P) :: ((nat_lit 209 : Nat), o209 P) :: ((nat_lit 210 : Nat), o210 P) :: ((nat_lit 211 : Nat), o211 P) :: ((nat_lit 213 : Nat), o213 P) :: ((nat_lit 214 : Nat), o214 P) :: ((nat_lit 216 : Nat), o216 P) :: ((nat_lit 217 : Nat), o217 P) :: ((nat_lit 218 : Nat), o218 P) :: ((nat_lit 221 : Nat), o221 P) :: ((nat_lit 222 : Nat), o222 P) :: []
noncomputable def Kas : List Addr := [(nat_lit 2 : Nat), (nat_lit 3 : Nat), (nat_lit 32 : Nat), (nat_lit 34 : Nat), (nat_lit 35 : Nat), (nat_lit 37 : Nat), (nat_lit 38 : Nat), (nat_lit 39 : Nat), (nat_lit 41 : Nat), (nat_lit 42 : Nat), (nat_lit 44 : Nat), (nat_lit 45 : Nat), (nat_lit 46 : Nat), (nat_lit 48 : Nat), (nat_lit 49 : Nat), (nat_lit 51 : Nat), (nat_lit 52 : Nat), (nat_lit 53 : Nat), (nat_lit 55 : Nat), (nat_lit 56 : Nat), (nat_lit 58 : Nat), (nat_lit 59 : Nat), (nat_lit 60 : Nat), (nat_lit 62 : Nat), (nat_lit 63 : Nat), (nat_lit 65 : Nat), (nat_lit 66 : Nat), (nat_lit 67 : Nat), (nat_lit 69 : Nat), (nat_lit 70 : Nat), (nat_lit 72 : Nat), (nat_lit 73 : Nat), (nat_lit 74 : Nat), (nat_lit 75 : Nat), (nat_lit 76 : Nat), (nat_lit 77 : Nat), (nat_lit 78 : Nat), (nat_lit 79 : Nat), (nat_lit 80 : Nat), (nat_lit 81 : Nat), (nat_lit 82 : Nat), (nat_lit 83 : Nat), (nat_lit 84 : Nat), (nat_lit 86 : Nat), (nat_lit 87 : Nat), (nat_lit 89 : Nat), (nat_lit 90 : Nat), (nat_lit 98 : Nat), (nat_lit 102 : Nat), (nat_lit 104 : Nat), (nat_lit 105 : Nat), (nat_lit 107 : Nat), (nat_lit 108 : Nat), (nat_lit 109 : Nat), (nat_lit 148 : Nat), (nat_lit 150 : Nat), (nat_lit 151 : Nat), (nat_lit 153 : Nat), (nat_lit 154 : Nat), (nat_lit 155 : Nat), (nat_lit 157 : Nat), (nat_lit 158 : Nat), (nat_lit 160 : Nat), (nat_lit 161 : Nat), (nat_lit 162 : Nat), (nat_lit 164 : Nat), (nat_lit 165 : Nat), (nat_lit 167 : Nat), (nat_lit 168 : Nat), (nat_lit 169 : Nat), (nat_lit 171 : Nat), (nat_lit 172 : Nat), (nat_lit 174 : Nat), (nat_lit 175 : Nat), (nat_lit 176 : Nat), (nat_lit 178 : Nat), (nat_lit 179 : Nat), (nat_lit 181 : Nat), (nat_lit 182 : Nat), (nat_lit 183 : Nat), (nat_lit 185 : Nat), (nat_lit 186 : Nat), (nat_lit 188 : Nat), (nat_lit 189 : Nat), (nat_lit 190 : Nat), (nat_lit 192 : Nat), (nat_lit 193 : Nat), (nat_lit 195 : Nat), (nat_lit 196 : Nat), (nat_lit 197 : Nat), (nat_lit 199 : Nat), (nat_lit 200 : Nat), (nat_lit 202 : Nat), (nat_lit 203 : Nat), (nat_lit 204 : Nat), (nat_lit 206 : Nat), (nat_lit 207 : Nat), (nat_lit 209 : Nat), (nat_lit 210 : Nat), (nat_lit 211 : Nat), (nat_lit 213 : Nat), (nat_lit 214 : Nat), (nat_lit 216 : Nat), (nat_lit 217 : Nat), (nat_lit 218 : Nat), (nat_lit 221 : Nat), (nat_lit 222 : Nat)]
noncomputable def qv : Program := view pw [0, 1, 2, 3, 4, 5, 6, 7, 8, 11, 12, 13, 15, 17, 18, 19, 20, 21, 22, 23, 24, 25, 26, 27, 28]
noncomputable def loose : List Str := [Str.ofString "_twin_re_1", Str.ofString "_twin_re_2", Str.ofString "b1_set", Str.ofString "b3_exceptions"]
noncomputable abbrev rr : OpenRow := PySem.Challenge.rw_st0031_01.row
theorem K_as (P : Params) : Kas = (K P).map (·.1) := by kernel_rfl
noncomputable def HK : Hook := kHook K Kas K_as
noncomputable def Xt (s : Shared) : Bool := xlAt qv [] s && recOk (RowW.records rr.toRowW) s
noncomputable def Sg (w : World) (os : OsState) : Shared := ⟨Hg w.params, #[], {}, 2520, os⟩

end
end Mine
set_option Elab.async false
set_option maxRecDepth 100000
namespace Mine
open PySem PySem.W PyProof.Rows

noncomputable def Rn (w : World) (n : Nat) {α : Type} (t : Sem α) (q : Pos) (s : Shared) (a : α) (q' : Pos) (s' : Shared) : Prop :=
  ∀ (K : α → Sem PySem.Fin) (H : Value → Sem PySem.Fin) (gd : Bool → Bool) (lv : List Value → List Value) (c : Code) (B : List Frame) (N : Nat), B ≠ [] →
    segRun treeTable pw w 28 ann 1 (n + N) s ⟨t.wrap K H gd lv, c, q, B⟩ = segRun treeTable pw w 28 ann 1 N s' ⟨K a, c, q', B⟩

section
variable {w : World} {α β : Type} {s s' s₁ : Shared} {q q' q₁ : Pos} {a : α} {b : β} {n m : Nat}

theorem Rn.pure : Rn w 0 (Sem.pure a) q s a q s := fun K H gd lv c B N hB => by rw [Nat.zero_add]; rfl
theorem Rn.pure' : Rn w 0 (Pure.pure a : Sem α) q s a q s := fun K H gd lv c B N hB => by rw [Nat.zero_add]; rfl
theorem Rn.bind {t : Sem α} {f : α → Sem β} (h : Rn w n t q s a q₁ s₁) (k : Rn w m (f a) q₁ s₁ b q' s') : Rn w (n + m) (t >>= f) q s b q' s' := fun K H gd lv c B N hB => by
  rw [Sem.bind_eq_wrap', Sem.wrap_wrap, Nat.add_assoc]
  exact (h _ _ _ _ c B (m + N) hB).trans (k _ _ _ _ c B N hB)
theorem Rn.keep {t : Sem α} {vs : List Value} (h : Rn w n t q s a q' s') : Rn w n (t.keep vs) q s a q' s' := fun K H gd lv c B N hB => by
  rw [Sem.keep_eq_wrap, Sem.wrap_wrap]; exact h _ _ _ _ c B N hB
theorem Rn.holding {t : Sem α} {vs : List Value} (h : Rn w n t q s a q' s') : Rn w n (holding vs t) q s a q' s' := by
  unfold PySem.holding
  split
  · exact h
  · exact h.keep
theorem Rn.onRaise {t : Sem α} {f : Value → Sem Unit} (h : Rn w n t q s a q' s') : Rn w n (t.onRaise f) q s a q' s' := fun K H gd lv c B N hB => by
  rw [Sem.onRaise_eq_wrap, Sem.wrap_wrap]; exact h _ _ _ _ c B N hB
theorem Rn.tryCatch {t : Sem α} {f : Value → Sem α} (h : Rn w n t q s a q' s') : Rn w n (t.tryCatch f) q s a q' s' := fun K H gd lv c B N hB => by
  rw [Sem.tryCatch_eq_wrap, Sem.wrap_wrap]; exact h _ _ _ _ c B N hB
theorem Rn.cast {t t' : Sem α} {n n' : Nat} (h : Rn w n t q s a q' s') (et : t' = t) (en : n' = n) : Rn w n' t' q s a q' s' := by subst et en; exact h

theorem endAt_cmd {b : Nat} {t : Sem PySem.Fin} {c : Code} {q : Pos} {B : List Frame} (h : ∀ f, t ≠ .pure (.done f)) : endAt b ⟨t, c, q, B⟩ = none := by
  unfold endAt
  split
  · rename_i f h1 h2; exact absurd h2 (h f)
  · rfl

theorem Rn.rule {tag : String} {k : Unit → Sem α} (h : Rn w n (k ()) q s a q' s') : Rn w (n + 1) (.rule tag k) q s a q' s' := fun K H gd lv c B N hB => by
  rw [show n + 1 + N = n + N + 1 by omega]
  exact (show segRun treeTable pw w 28 ann 1 (n + N + 1) s ⟨.rule tag fun x => (k x).wrap K H gd lv, c, q, B⟩ = _ by
    conv => lhs; unfold segRun
    rw [endAt_cmd (by intro f e; cases e)]
    obtain ⟨heap, gens, drawn, toks, os⟩ := s
    exact h K H gd lv c B N hB)
theorem Rn.at_ {p : Pos} {k : Unit → Sem α} (h : Rn w n (k ()) p s a q' s') : Rn w (n + 1) (.at p k) q s a q' s' := fun K H gd lv c B N hB => by
  rw [show n + 1 + N = n + N + 1 by omega]
  exact (show segRun treeTable pw w 28 ann 1 (n + N + 1) s ⟨.at p fun x => (k x).wrap K H gd lv, c, q, B⟩ = _ by
    conv => lhs; unfold segRun
    rw [endAt_cmd (by intro f e; cases e)]
    obtain ⟨heap, gens, drawn, toks, os⟩ := s
    exact h K H gd lv c B N hB)
theorem Rn.point {l : List Value} {k : Unit → Sem α} (h : Rn w n (k ()) q s a q' s') : Rn w (n + 1) (.point l k) q s a q' s' := fun K H gd lv c B N hB => by
  rw [show n + 1 + N = n + N + 1 by omega]
  exact (show segRun treeTable pw w 28 ann 1 (n + N + 1) s ⟨.point (lv l) fun x => (k x).wrap K H gd lv, c, q, B⟩ = _ by
    conv => lhs; unfold segRun
    rw [endAt_cmd (by intro f e; cases e)]
    obtain ⟨heap, gens, drawn, toks, os⟩ := s
    exact h K H gd lv c B N hB)
theorem Rn.ask {k : Setting → Sem α} (h : Rn w n (k ⟨pw, w.params⟩) q s a q' s') : Rn w (n + 1) (.ask k) q s a q' s' := fun K H gd lv c B N hB => by
  rw [show n + 1 + N = n + N + 1 by omega]
  exact (show segRun treeTable pw w 28 ann 1 (n + N + 1) s ⟨.ask fun x => (k x).wrap K H gd lv, c, q, B⟩ = _ by
    conv => lhs; unfold segRun
    rw [endAt_cmd (by intro f e; cases e)]
    obtain ⟨heap, gens, drawn, toks, os⟩ := s
    exact h K H gd lv c B N hB)
theorem Rn.fresh {k : Tok → Sem α} (h : Rn w n (k s.toks) q { s with toks := s.toks + 1 } a q' s') : Rn w (n + 1) (.fresh k) q s a q' s' := fun K H gd lv c B N hB => by
  rw [show n + 1 + N = n + N + 1 by omega]
  exact (show segRun treeTable pw w 28 ann 1 (n + N + 1) s ⟨.fresh fun x => (k x).wrap K H gd lv, c, q, B⟩ = _ by
    conv => lhs; unfold segRun
    rw [endAt_cmd (by intro f e; cases e)]
    obtain ⟨heap, gens, drawn, toks, os⟩ := s
    exact h K H gd lv c B N hB)
theorem Rn.alloc {o : Obj} {k : Addr → Sem α} (h : Rn w n (k s.heap.objs.size) q { s with heap := s.heap.push o } a q' s') : Rn w (n + 1) (.alloc o k) q s a q' s' := fun K H gd lv c B N hB => by
  rw [show n + 1 + N = n + N + 1 by omega]
  exact (show segRun treeTable pw w 28 ann 1 (n + N + 1) s ⟨.alloc o fun x => (k x).wrap K H gd lv, c, q, B⟩ = _ by
    conv => lhs; unfold segRun
    rw [endAt_cmd (by intro f e; cases e)]
    obtain ⟨heap, gens, drawn, toks, os⟩ := s
    exact h K H gd lv c B N hB)
theorem Rn.load {x : Addr} {part : Option Value} {o : Obj} {k : Obj → Sem α} (ho : s.heap.get? x = some o) (h : Rn w n (k o) q s a q' s') : Rn w (n + 1) (.load x part k) q s a q' s' := fun K H gd lv c B N hB => by
  rw [show n + 1 + N = n + N + 1 by omega]
  exact (show segRun treeTable pw w 28 ann 1 (n + N + 1) s ⟨.load x part fun x => (k x).wrap K H gd lv, c, q, B⟩ = _ by
    conv => lhs; unfold segRun
    rw [endAt_cmd (by intro f e; cases e)]
    obtain ⟨heap, gens, drawn, toks, os⟩ := s
    have ho' : heap.get? x = some o := ho
    show (match step (denote treeTable) pw w ⟨heap, gens, drawn, toks, os⟩ ⟨.load x part fun x => (k x).wrap K H gd lv, c, q, B⟩ with | .go s' t' => segRun treeTable pw w 28 ann 1 (n + N) s' t' | .halt _ _ => none) = _
    simp only [step, ho']
    exact h K H gd lv c B N hB)
theorem Rn.update {x : Addr} {part : Option Value} {f : Obj → Obj} {k : Unit → Sem α} (hx : 28 ≤ x) (ho : (s.heap.get? x).isSome = true) (h : Rn w n (k ()) q { s with heap := s.heap.update x f } a q' s') : Rn w (n + 1) (.update x part f k) q s a q' s' := fun K H gd lv c B N hB => by
  rw [show n + 1 + N = n + N + 1 by omega]
  exact (show segRun treeTable pw w 28 ann 1 (n + N + 1) s ⟨.update x part f fun x => (k x).wrap K H gd lv, c, q, B⟩ = _ by
    conv => lhs; unfold segRun
    rw [endAt_cmd (by intro f e; cases e)]
    have hk : stepOk 28 ann ⟨.update x part f fun x => (k x).wrap K H gd lv, c, q, B⟩ = true := by
      show (true && (Nat.ble 28 x || x == mainNs || x == cStatics || ann == some (.ref x))) = true
      rw [Nat.ble_eq_true_of_le hx]; rfl
    rw [hk]
    obtain ⟨heap, gens, drawn, toks, os⟩ := s
    have ho' : (heap.get? x).isSome = true := ho
    show (match step (denote treeTable) pw w ⟨heap, gens, drawn, toks, os⟩ ⟨.update x part f fun x => (k x).wrap K H gd lv, c, q, B⟩ with | .go s' t' => segRun treeTable pw w 28 ann 1 (n + N) s' t' | .halt _ _ => none) = _
    simp only [step, ho', if_true]
    exact h K H gd lv c B N hB)

noncomputable def Rc (w : World) (n : Nat) (c' : Code) (s : Shared) (f : Flow) (s' : Shared) : Prop :=
  ∀ (kk : Result → Sem PySem.Fin) (h : Option Value) (g : Bool) (l : List Value) (c : Code) (p : Pos) (kept : List Value) (q : Pos) (B : List Frame) (N : Nat), B ≠ [] →
    segRun treeTable pw w 28 ann 1 (n + N) s ⟨denote treeTable c', c', q, .ret kk h g l c p kept :: B⟩ = segRun treeTable pw w 28 ann 1 N s' ⟨kk (.ok f), c, p, B⟩
theorem wrap_id (T : Sem α) : T.wrap Sem.pure Sem.raise id id = T := by
  induction T <;> simp only [Sem.wrap, id, *]
theorem Rc.done {c' : Code} {f : Flow} {T : Sem PySem.Fin} (hT : denote treeTable c' = T) (h : ∀ q, ∃ q', Rn w n T q s (.done f) q' s') : Rc w (n + 1) c' s f s' := fun kk hd g l c p kept q B N hB => by
  obtain ⟨q', h⟩ := h q
  rw [hT]
  have e : T = T.wrap Sem.pure Sem.raise id id := (wrap_id T).symm
  rw [e, Nat.add_assoc]
  refine (h _ _ _ _ c' _ (1 + N) (List.cons_ne_nil _ _)).trans ?_
  rw [Nat.add_comm 1 N]
  conv => lhs; unfold segRun
  have he : endAt 1 ⟨Sem.pure (PySem.Fin.done f), c', q', .ret kk hd g l c p kept :: B⟩ = none := by
    unfold endAt
    cases B with
    | nil => exact absurd rfl hB
    | cons x r =>
      show (match (x :: r).length + 1 == 1, (Sem.pure (PySem.Fin.done f) : Sem PySem.Fin) with | true, .pure (.done f) => some f | _, _ => none) = none
      rw [show ((x :: r).length + 1 == 1) = false by simp]
  rw [he]
  obtain ⟨heap, gens, drawn, toks, os⟩ := s'
  rfl
noncomputable def lifeId : Code → Bool
  | .builtin id _ => id.startsWith "lifetime."
  | _ => false
theorem Rc.again {c' c₂ : Code} {f : Flow} (hT : denote treeTable c' = Sem.pure (PySem.Fin.again c₂)) (hc : lifeId c₂ = false) (h : Rc w n c₂ s f s') : Rc w (n + 1) c' s f s' := fun kk hd g l c p kept q B N hB => by
  rw [hT, show n + 1 + N = n + N + 1 by omega]
  conv => lhs; unfold segRun
  rw [endAt_cmd (by intro f e; cases e)]
  have hk : stepOk 28 ann ⟨Sem.pure (PySem.Fin.again c₂), c', q, .ret kk hd g l c p kept :: B⟩ = true := by
    unfold stepOk Thread.calm Thread.atCollectorCode Thread.yieldsInsideHandler
    cases c₂ <;> simp_all [lifeId]
  rw [hk]
  obtain ⟨heap, gens, drawn, toks, os⟩ := s
  show (match step (denote treeTable) pw w ⟨heap, gens, drawn, toks, os⟩ ⟨Sem.pure (PySem.Fin.again c₂), c', q, .ret kk hd g l c p kept :: B⟩ with | .go s' t' => segRun treeTable pw w 28 ann 1 (n + N) s' t' | .halt _ _ => none) = _
  rw [PySem.W.step_again]
  exact h kk hd g l c p _ q B N hB
theorem Rn.call {c' : Code} {hd : Option Value} {g : Bool} {l : List Value} {k : Result → Sem α} {f : Flow} (hc : Rc w m c' s f s₁) (h : Rn w n (k (.ok f)) q s₁ a q' s') : Rn w (m + n + 1) (.call c' hd g l k) q s a q' s' := fun K H gd lv c B N hB => by
  rw [show m + n + 1 + N = m + (n + N) + 1 by omega]
  exact (show segRun treeTable pw w 28 ann 1 (m + (n + N) + 1) s ⟨.call c' hd (gd g) (lv l) fun x => (k x).wrap K H gd lv, c, q, B⟩ = _ by
    conv => lhs; unfold segRun
    rw [endAt_cmd (by intro f e; cases e)]
    obtain ⟨heap, gens, drawn, toks, os⟩ := s
    exact (hc _ _ _ _ _ _ _ _ B (n + N) hB).trans (h K H gd lv c B N hB))
end
end Mine
set_option Elab.async false
set_option maxRecDepth 100000
namespace Mine
open PySem PySem.W PyProof.Rows
section
variable {w : World} {α β : Type} {s s' s₁ : Shared} {q q' q₁ : Pos} {a : α} {b : β} {n m : Nat}

theorem sp_hash (k : Int) (t : Tok) : specialOf (.int k t) "__hash__" = Sem.pure (some (.builtin "int.__hash__")) := by
  unfold specialOf
  show typeLookup (.type "int") "__hash__" = _
  rw [typeLookup_type, builtinLookup_eq_fast]
  exact congrArg Sem.pure (by kernel_rfl)

theorem bs_hash (k : Int) (t : Tok) : bindSpecial (.builtin "int.__hash__") (.int k t) = Sem.pure (.builtin "int.__hash__", [.int k t]) := by
  kernel_rfl

theorem rc_hash {k : Int} {t : Tok} : Rc w 3 (.call (.builtin "int.__hash__") ⟨[.int k t], []⟩) s (.ret (.int (rawHash k) s.toks)) { s with toks := s.toks + 1 } := by
  refine Rc.again (n := 2) (c₂ := .builtin "int.__hash__" ⟨[.int k t], []⟩) (by kernel_rfl) (by show "int.__hash__".startsWith "lifetime." = false; decide +kernel) ?_
  refine Rc.done (n := 1) (T := Sem.fresh fun tk => .pure (.done (.ret (.int (rawHash k) tk)))) (by kernel_rfl) fun q => ⟨q, ?_⟩
  exact Rn.fresh Rn.pure

theorem rn_hash {k : Int} {t : Tok} (h0 : 0 ≤ k) (h1 : k < 2 ^ 31) : Rn w 5 (pyHash (.int k t)) q s k q { s with toks := s.toks + 1 } := by
  have hr : rawHash k = k := by
    unfold rawHash
    dsimp only
    have : ((k.natAbs : Int) % ((2 ^ 61 - 1 : Nat) : Int)) = k := by
      have e : ((2 ^ 61 - 1 : Nat) : Int) = 2305843009213693951 := by decide
      rw [e, Int.emod_eq_of_lt (by omega) (by omega)]; omega
    rw [this]
    have e2 : (if k < 0 then -k else k) = k := if_neg (by omega)
    rw [e2, if_neg (by rw [beq_iff_eq]; omega)]
  show Rn w 5 (pyHashByItsType (.int k t)) q s k q _
  unfold pyHashByItsType
  rw [sp_hash]
  show Rn w 5 (callSpecialIfBoundUnlessNone? (.int k t) "__hash__" _ >>= _) q s k q _
  refine Rn.bind (n := 5) (m := 0) (a := some (.int k s.toks)) (q₁ := q) (s₁ := { s with toks := s.toks + 1 }) ?_ ?_
  · unfold callSpecialIfBoundUnlessNone? bindSpecialIfBound?
    refine Rn.holding ?_
    rw [sp_hash]
    refine Rn.bind (n := 1) (m := 4) (a := some (.builtin "int.__hash__", [.int k t])) (q₁ := q) (s₁ := s) ?_ ?_
    · refine Rn.ask (n := 0) ?_
      rw [bs_hash]
      show Rn w 0 (if w.params.followText "special-get-raises" = true then _ else _) q s _ q s
      split <;> exact Rn.pure
    · show Rn w 4 (PySem.call (.builtin "int.__hash__") [.int k t] >>= _) q s _ q _
      refine Rn.bind (n := 4) (m := 0) (a := .int k s.toks) (q₁ := q) (s₁ := { s with toks := s.toks + 1 }) ?_ Rn.pure
      unfold PySem.call runValue run
      have := @rc_hash w s k t
      rw [hr] at this
      exact Rn.call (m := 3) (n := 0) this Rn.pure
  · show Rn w 0 (pyHashByItsType.reduced k) q _ k q _
    unfold pyHashByItsType.reduced
    rw [if_pos (by rw [decide_eq_true (by omega), decide_eq_true (by omega)]; rfl)]
    rw [if_neg (by rw [beq_iff_eq]; omega)]
    exact Rn.pure
end
end Mine
set_option Elab.async false
set_option maxRecDepth 100000
namespace Mine
open PySem PySem.W PyProof.Rows
section
noncomputable def hp (l : List Obj) : Heap := ⟨l.toArray, {}⟩
noncomputable def stt (l : List Obj) (t : Nat) (os : OsState) : Shared := ⟨hp l, #[], {}, t, os⟩
noncomputable def dO (es : List DictEntry) (n : Nat) : Obj := ⟨.type "dict", none, .dict es.toArray n, #[]⟩
theorem hp_size (l : List Obj) : (hp l).objs.size = l.length := rfl
theorem hp_get {l : List Obj} {i : Nat} {es : List DictEntry} {n : Nat} (h : l[i]? = some (dO es n)) : (hp l).get? i = some (dO es n) := by
  unfold Heap.get? hp
  simp only [List.getElem?_toArray, h]
  rfl
theorem hp_push (l : List Obj) (o : Obj) : (hp l).push o = hp (l ++ [o]) := by
  unfold Heap.push hp
  simp
theorem hp_update (l : List Obj) (i : Nat) (f : Obj → Obj) : (hp l).update i f = hp (l.modify i f) := by
  unfold Heap.update hp
  simp
theorem dO_push (es : List DictEntry) (n : Nat) (e : DictEntry) : (dO es n).mapDictKeys (·.push e) = dO (es ++ [e]) (n + 1) := by
  unfold dO Obj.mapDictKeys
  simp
theorem set_at {pre post : List Obj} {o : Obj} {f : Obj → Obj} : (pre ++ o :: post).modify pre.length f = pre ++ f o :: post := by
  induction pre with
  | nil => rfl
  | cons a r ih => simp [ih]
theorem get_at {pre post : List Obj} {o : Obj} : (pre ++ o :: post)[pre.length]? = some o := by simp

variable {w : World} {os : OsState} {q : Pos} {t : Nat}

theorem places_none {es : List DictEntry} {h : Int} (hn : ∀ e ∈ es, e.hash ≠ h) : placesWithHash es.toArray.size (fun i => es.toArray[i]?.map (·.hash)) h = [] := by
  unfold placesWithHash
  refine List.filter_eq_nil_iff.mpr fun i _ => ?_
  simp only [List.getElem?_toArray, beq_iff_eq]
  cases he : es[i]? with
  | none => simp
  | some e => simpa using hn e (List.mem_of_getElem? he)

theorem rn_find {s : Shared} {d : Addr} {es : List DictEntry} {n : Nat} {k : Int} {tk : Tok} (hg : s.heap.get? d = some (dO es n)) (hn : ∀ e ∈ es, e.hash ≠ k) :
    Rn w 1 (dictFind d (.int k tk) k) q s none q s := by
  unfold dictFind
  refine Rn.holding ?_
  refine Rn.bind (n := 1) (m := 0) (a := es.toArray) (q₁ := q) (s₁ := s) ?_ ?_
  · unfold dictEntries loadPart
    refine Rn.bind (n := 1) (m := 0) (a := dO es n) (q₁ := q) (s₁ := s) (Rn.load hg Rn.pure) ?_
    exact Rn.pure
  · dsimp only
    rw [places_none hn]
    show Rn w 0 (dictWalkPlain d (.int k tk) k es.toArray []) q s none q s
    unfold dictWalkPlain
    exact Rn.pure

theorem rn_keys {s : Shared} {pre post : List Obj} {es : List DictEntry} {n : Nat} {e : DictEntry} {part : Option Value} (hs : s = stt (pre ++ dO es n :: post) t os) (h28 : 28 ≤ pre.length) (hz : es.length < 1000) :
    Rn w 3 (updateDictKeys pre.length (·.push e) part) q s () q (stt (pre ++ dO (es ++ [e]) (n + 1) :: post) t os) := by
  subst hs
  have g1 : (stt (pre ++ dO es n :: post) t os).heap.get? pre.length = some (dO es n) := hp_get get_at
  have g2 : (stt (pre ++ dO (es ++ [e]) (n + 1) :: post) t os).heap.get? pre.length = some (dO (es ++ [e]) (n + 1)) := hp_get get_at
  unfold updateDictKeys loadPart
  refine Rn.bind (n := 1) (m := 2) (a := dO es n) (q₁ := q) (s₁ := stt (pre ++ dO es n :: post) t os) (Rn.load g1 Rn.pure) ?_
  show Rn w 2 (updatePart pre.length part _ >>= fun _ => lookBehind pre.length part) q _ _ q _
  refine Rn.bind (n := 1) (m := 1) (a := ()) (q₁ := q) (s₁ := stt (pre ++ dO (es ++ [e]) (n + 1) :: post) t os) ?_ ?_
  · unfold updatePart
    refine Rn.update h28 (by rw [g1]; rfl) ?_
    have : ({ stt (pre ++ dO es n :: post) t os with heap := (stt (pre ++ dO es n :: post) t os).heap.update pre.length (Obj.mapDictKeys (·.push e)) } : Shared) = stt (pre ++ dO (es ++ [e]) (n + 1) :: post) t os := by
      unfold stt
      rw [hp_update, set_at, dO_push]
    rw [this]
    exact Rn.pure
  · unfold lookBehind loadPart
    refine Rn.bind (n := 1) (m := 0) (a := dO (es ++ [e]) (n + 1)) (q₁ := q) (s₁ := stt (pre ++ dO (es ++ [e]) (n + 1) :: post) t os) (Rn.load g2 Rn.pure) ?_
    have : (dO (es ++ [e]) (n + 1)).data.pastItsLine = none := by
      unfold dO Data.pastItsLine
      simp only [List.size_toArray, List.length_append, List.length_singleton]
      rw [if_neg (by unfold sizeLine; omega)]
    rw [this]
    exact Rn.pure
end
end Mine
set_option Elab.async false
set_option maxRecDepth 100000
namespace Mine
open PySem PySem.W PyProof.Rows
section
variable {w : World} {os : OsState} {q : Pos} {t : Nat}

theorem rn_set {pre post : List Obj} {es : List DictEntry} {n : Nat} {k : Int} {tk : Tok} {v : Value} (h28 : 28 ≤ pre.length) (hz : es.length < 1000) (h0 : 0 ≤ k) (h1 : k < 2 ^ 31) (hn : ∀ e ∈ es, e.hash ≠ k) :
    Rn w 10 (dictSet pre.length (.int k tk) v) q (stt (pre ++ dO es n :: post) t os) () q (stt (pre ++ dO (es ++ [⟨k, .int k tk, v⟩]) (n + 1) :: post) (t + 1) os) := by
  unfold dictSet
  refine Rn.holding ?_
  refine Rn.bind (n := 5) (m := 5) (a := k) (q₁ := q) (s₁ := stt (pre ++ dO es n :: post) (t + 1) os) (rn_hash h0 h1) ?_
  unfold dictSetHashed
  refine Rn.holding ?_
  refine Rn.bind (n := 1) (m := 4) (a := none) (q₁ := q) (s₁ := stt (pre ++ dO es n :: post) (t + 1) os) (rn_find (hp_get get_at) hn) ?_
  refine Rn.bind (n := 1) (m := 3) (a := ()) (q₁ := q) (s₁ := stt (pre ++ dO es n :: post) (t + 1) os) (Rn.rule Rn.pure) ?_
  exact rn_keys rfl h28 hz
theorem rn_put {pre post : List Obj} {es : List DictEntry} {n : Nat} {k : Int} {tk : Tok} {v : Value} (h28 : 28 ≤ pre.length) (hz : es.length < 1000) (hn : ∀ e ∈ es, e.hash ≠ k) :
    Rn w 4 (dictPut pre.length k (.int k tk) v) q (stt (pre ++ dO es n :: post) t os) () q (stt (pre ++ dO (es ++ [⟨k, .int k tk, v⟩]) (n + 1) :: post) t os) := by
  unfold dictPut
  refine Rn.bind (n := 1) (m := 3) (a := none) (q₁ := q) (s₁ := stt (pre ++ dO es n :: post) t os) (rn_find (hp_get get_at) hn) ?_
  exact rn_keys rfl h28 hz

theorem rn_for {γ : Type} {f : γ → PUnit → Sem (ForInStep PUnit)} {c : Nat} : ∀ (L : List γ) (S : Nat → Shared),
    (∀ i x, L[i]? = some x → Rn w c (f x ⟨⟩) q (S i) (.yield ⟨⟩) q (S (i + 1))) → Rn w (c * L.length) (forIn L PUnit.unit f) q (S 0) ⟨⟩ q (S L.length)
  | [], S, _ => by rw [List.forIn_nil]; exact Rn.pure'
  | x :: r, S, h => by
    rw [List.forIn_cons]
    have e : c * (x :: r).length = c + c * r.length := by rw [List.length_cons, Nat.mul_add, Nat.mul_one, Nat.add_comm]
    rw [e]
    refine Rn.bind (h 0 x rfl) ?_
    exact rn_for r (fun i => S (i + 1)) fun i y hy => h (i + 1) y hy

theorem rn_mkInt {l : List Obj} {k : Int} : Rn w 1 (mkInt k) q (stt l t os) (.int k t) q (stt l (t + 1) os) := Rn.fresh Rn.pure
noncomputable def vTree (q : Pos) (v : Str) : Sem Value := do let x ← mkText v; standAt q; pure x
theorem rn_vTree {l : List Obj} {v : Str} : Rn w 2 (vTree q v) q (stt l t os) (.str v t) q (stt l (t + 1) os) := by
  unfold vTree
  refine Rn.bind (n := 1) (m := 1) (a := .str v t) (q₁ := q) (s₁ := stt l (t + 1) os) (Rn.fresh Rn.pure) ?_
  exact Rn.bind (n := 1) (m := 0) (a := ()) (q₁ := q) (s₁ := stt l (t + 1) os) (Rn.at_ Rn.pure) Rn.pure
noncomputable def pTree (q : Pos) (x : Int × Str) : Sem Value × Sem Value := (mkInt x.1, vTree q x.2)

noncomputable def Inc (run : List (Int × Str)) : Prop := run.Pairwise (fun a b => a.1 < b.1)
noncomputable def Small (run : List (Int × Str)) : Prop := ∀ x ∈ run, 0 ≤ x.1 ∧ x.1 < 2 ^ 31
theorem Inc.at {run : List (Int × Str)} (h : Inc run) {i : Nat} {x : Int × Str} (hx : run[i]? = some x) : ∀ y ∈ run.take i, y.1 < x.1 := by
  intro y hy
  obtain ⟨j, hj, rfl⟩ := List.mem_iff_getElem.mp hy
  rw [List.length_take] at hj
  obtain ⟨hi, rfl⟩ := List.getElem?_eq_some_iff.mp hx
  rw [List.getElem_take]
  exact List.pairwise_iff_getElem.mp h j i (by omega) hi (by omega)
theorem runE_mem {run : List (Int × Str)} : ∀ {t : Nat} {e : DictEntry}, e ∈ runE t run → ∃ x ∈ run, e.hash = x.1 := by
  induction run with
  | nil => intro t e h; cases h
  | cons x r ih =>
    intro t e h
    rcases List.mem_cons.mp h with rfl | h
    · exact ⟨_, .head _, rfl⟩
    · obtain ⟨x, hx, e⟩ := ih h; exact ⟨x, .tail _ hx, e⟩
theorem lastE_mem {run : List (Int × Str)} : ∀ {t : Nat} {e : DictEntry}, e ∈ lastE t run → ∃ x ∈ run, e.hash = x.1 := by
  induction run with
  | nil => intro t e h; cases h
  | cons x r ih =>
    intro t e h
    rcases List.mem_cons.mp h with rfl | h
    · exact ⟨_, .head _, rfl⟩
    · obtain ⟨x, hx, e⟩ := ih h; exact ⟨x, .tail _ hx, e⟩
theorem runE_length : ∀ (run : List (Int × Str)) (t : Nat), (runE t run).length = run.length
  | [], _ => rfl
  | (_, _) :: r, t => by simp [runE, runE_length r]
theorem lastE_length : ∀ (run : List (Int × Str)) (t : Nat), (lastE t run).length = run.length
  | [], _ => rfl
  | (_, _) :: r, t => by simp [lastE, lastE_length r]
theorem runE_snoc : ∀ (run : List (Int × Str)) (t : Nat) (k : Int) (v : Str), runE t (run ++ [(k, v)]) = runE t run ++ [⟨k, .int k (t + 3 * run.length), .str v (t + 3 * run.length + 1)⟩]
  | [], _, _, _ => rfl
  | (a, b) :: r, t, k, v => by
    simp only [List.cons_append, runE, runE_snoc r (t + 3) k v, List.length_cons]
    rw [show t + 3 + 3 * r.length = t + 3 * (r.length + 1) by omega]
theorem take_snoc {γ : Type} {L : List γ} {i : Nat} {x : γ} (h : L[i]? = some x) : L.take (i + 1) = L.take i ++ [x] := by
  rw [List.take_add_one, h]; rfl
theorem take_len {γ : Type} {L : List γ} {i : Nat} {x : γ} (h : L[i]? = some x) : (L.take i).length = i := by
  obtain ⟨hi, _⟩ := List.getElem?_eq_some_iff.mp h
  rw [List.length_take]; omega

theorem rn_subLong {l : List Obj} {run : List (Int × Str)} (h28 : 28 ≤ l.length) (hi : Inc run) (hs : Small run) (hl : 15 < run.length) (hl2 : run.length < 1000) :
    Rn w (13 * run.length + 2) (subDict (run.map (pTree q))) q (stt l t os) l.length q (stt (l ++ [dO (runE t run) run.length]) (t + 3 * run.length) os) := by
  unfold subDict
  refine Rn.cast (n := 1 + (13 * run.length + 1)) ?_ rfl (by omega)
  refine Rn.bind (n := 1) (m := 13 * run.length + 1) (a := l.length) (q₁ := q) (s₁ := stt (l ++ [dO [] 0]) t os) ?_ ?_
  · refine Rn.alloc (n := 0) ?_
    have : ({ stt l t os with heap := (stt l t os).heap.push { cls := .type "dict", data := .dict #[] } } : Shared) = stt (l ++ [dO [] 0]) t os := by
      unfold stt
      rw [hp_push]; rfl
    rw [this]
    exact Rn.pure
  · refine Rn.bind (n := 13 * run.length + 1) (m := 0) (a := ()) (q₁ := q) (s₁ := stt (l ++ [dO (runE t run) run.length]) (t + 3 * run.length) os) ?_ Rn.pure
    refine Rn.holding ?_
    rw [List.length_map, if_neg (by omega)]
    refine Rn.cast (n := 1 + 13 * run.length) ?_ rfl (by omega)
    refine Rn.bind (n := 1) (m := 13 * run.length) (a := ()) (q₁ := q) (s₁ := stt (l ++ [dO [] 0]) t os) (Rn.rule Rn.pure) ?_
    have key := rn_for (w := w) (q := q) (c := 13) (f := fun (x : Sem Value × Sem Value) (_ : PUnit) => do
        let kv ← x.1
        let vv ← holding [kv] x.2
        holding [kv, vv] (dictSet l.length kv vv)
        pure (ForInStep.yield PUnit.unit)) (run.map (pTree q)) (fun i => stt (l ++ [dO (runE t (run.take i)) i]) (t + 3 * i) os) ?_
    · rw [List.length_map, List.take_length] at key
      exact Rn.bind (m := 0) key Rn.pure'
    · intro i x hx
      rw [List.getElem?_map] at hx
      cases hr : run[i]? with
      | none => rw [hr] at hx; cases hx
      | some kv =>
        rw [hr] at hx
        obtain ⟨k, v⟩ := kv
        cases hx
        have hm := hs (k, v) (List.mem_of_getElem? hr)
        have hlt := hi.at hr
        have hln := take_len hr
        have hi' : i < run.length := (List.getElem?_eq_some_iff.mp hr).1
        refine Rn.bind (n := 1) (m := 12) (a := .int k (t + 3 * i)) (q₁ := q) (s₁ := stt (l ++ [dO (runE t (run.take i)) i]) (t + 3 * i + 1) os) rn_mkInt ?_
        refine Rn.bind (n := 2) (m := 10) (a := .str v (t + 3 * i + 1)) (q₁ := q) (s₁ := stt (l ++ [dO (runE t (run.take i)) i]) (t + 3 * i + 2) os) (Rn.holding rn_vTree) ?_
        refine Rn.bind (n := 10) (m := 0) (a := ()) (q₁ := q) (s₁ := stt (l ++ [dO (runE t (run.take (i + 1))) (i + 1)]) (t + 3 * (i + 1)) os) (Rn.holding ?_) Rn.pure'
        have := rn_set (w := w) (os := os) (q := q) (t := t + 3 * i + 2) (pre := l) (post := []) (es := runE t (run.take i)) (n := i) (k := k) (tk := t + 3 * i) (v := .str v (t + 3 * i + 1)) h28 (by rw [runE_length]; omega) hm.1 hm.2
          (by intro e he; obtain ⟨y, hy, e'⟩ := runE_mem he; rw [e']; have := hlt y hy; dsimp only at this; omega)
        rw [take_snoc hr, runE_snoc, hln]
        rw [show t + 3 * (i + 1) = t + 3 * i + 2 + 1 by omega]
        exact this
end
end Mine
set_option Elab.async false
set_option maxRecDepth 100000
namespace Mine
open PySem PySem.W PyProof.Rows
section
variable {w : World} {os : OsState} {q : Pos} {t : Nat}

noncomputable def pv : Nat → List (Int × Str) → List (Value × Value)
  | _, [] => []
  | t, (k, v) :: r => (.int k t, .str v (t + 1)) :: pv (t + 2) r
theorem pv_length : ∀ (run : List (Int × Str)) (t : Nat), (pv t run).length = run.length
  | [], _ => rfl
  | (_, _) :: r, t => by simp [pv, pv_length r]
theorem pv_get : ∀ (run : List (Int × Str)) (t i : Nat), (pv t run)[i]? = run[i]?.map fun x => (.int x.1 (t + 2 * i), .str x.2 (t + 2 * i + 1))
  | [], _, _ => rfl
  | (k, v) :: r, t, 0 => rfl
  | (k, v) :: r, t, i + 1 => by
    simp only [pv, List.getElem?_cons_succ, pv_get r (t + 2) i]
    rw [show t + 2 + 2 * i = t + 2 * (i + 1) by omega]
theorem lastE_snoc : ∀ (run : List (Int × Str)) (t : Nat) (k : Int) (v : Str), lastE t (run ++ [(k, v)]) = lastE t run ++ [⟨k, .int k (t + 2 * run.length), .str v (t + 2 * run.length + 1)⟩]
  | [], _, _, _ => rfl
  | (a, b) :: r, t, k, v => by
    simp only [List.cons_append, lastE, lastE_snoc r (t + 2) k v, List.length_cons]
    rw [show t + 2 + 2 * r.length = t + 2 * (r.length + 1) by omega]
theorem rn_pairs {l : List Obj} : ∀ (run : List (Int × Str)) (t : Nat), Rn w (3 * run.length) (evalPairs (run.map (pTree q))) q (stt l t os) (pv t run) q (stt l (t + 2 * run.length) os)
  | [], t => Rn.pure'
  | (k, v) :: r, t => by
    rw [List.map_cons]
    unfold pTree evalPairs
    refine Rn.cast (n := 1 + (2 + (3 * r.length + 0))) ?_ rfl (by rw [List.length_cons]; omega)
    refine Rn.bind (a := .int k t) (q₁ := q) (s₁ := stt l (t + 1) os) rn_mkInt ?_
    refine Rn.bind (a := .str v (t + 1)) (q₁ := q) (s₁ := stt l (t + 2) os) (Rn.holding rn_vTree) ?_
    refine Rn.bind (a := pv (t + 2) r) (q₁ := q) (s₁ := stt l (t + 2 * (r.length + 1)) os) (Rn.holding ?_) Rn.pure'
    have := rn_pairs (l := l) r (t + 2)
    rw [show t + 2 + 2 * r.length = t + 2 * (r.length + 1) by omega] at this
    exact this

theorem rn_subShort {l : List Obj} {run : List (Int × Str)} (h28 : 28 ≤ l.length) (hi : Inc run) (hs : Small run) (hl : run.length ≤ 15) :
    Rn w (13 * run.length + 1) (subDict (run.map (pTree q))) q (stt l t os) l.length q (stt (l ++ [dO (lastE t run) run.length]) (t + 3 * run.length) os) := by
  unfold subDict
  refine Rn.cast (n := 1 + (13 * run.length + 0)) ?_ rfl (by omega)
  refine Rn.bind (a := l.length) (q₁ := q) (s₁ := stt (l ++ [dO [] 0]) t os) ?_ ?_
  · refine Rn.alloc (n := 0) ?_
    have : ({ stt l t os with heap := (stt l t os).heap.push { cls := .type "dict", data := .dict #[] } } : Shared) = stt (l ++ [dO [] 0]) t os := by
      unfold stt
      rw [hp_push]; rfl
    rw [this]
    exact Rn.pure
  · refine Rn.bind (a := ()) (q₁ := q) (s₁ := stt (l ++ [dO (lastE t run) run.length]) (t + 3 * run.length) os) ?_ Rn.pure
    refine Rn.holding ?_
    rw [List.length_map, if_pos hl]
    refine Rn.cast (n := 3 * run.length + 10 * run.length) ?_ rfl (by omega)
    refine Rn.bind (a := pv t run) (q₁ := q) (s₁ := stt (l ++ [dO [] 0]) (t + 2 * run.length) os) (rn_pairs run t) ?_
    refine Rn.holding ?_
    have key := rn_for (w := w) (q := q) (c := 10) (f := fun (x : Value × Value) (_ : PUnit) => do
        dictSet l.length x.1 x.2
        pure (ForInStep.yield PUnit.unit)) (pv t run) (fun i => stt (l ++ [dO (lastE t (run.take i)) i]) (t + 2 * run.length + i) os) ?_
    · rw [pv_length, List.take_length, show t + 2 * run.length + run.length = t + 3 * run.length by omega] at key
      exact Rn.bind (m := 0) key Rn.pure'
    · intro i x hx
      rw [pv_get] at hx
      cases hr : run[i]? with
      | none => rw [hr] at hx; cases hx
      | some kv =>
        rw [hr] at hx
        obtain ⟨k, v⟩ := kv
        cases hx
        have hm := hs (k, v) (List.mem_of_getElem? hr)
        have hlt := hi.at hr
        have hln := take_len hr
        have hi' : i < run.length := (List.getElem?_eq_some_iff.mp hr).1
        refine Rn.bind (n := 10) (m := 0) (a := ()) (q₁ := q) (s₁ := stt (l ++ [dO (lastE t (run.take (i + 1))) (i + 1)]) (t + 2 * run.length + (i + 1)) os) ?_ Rn.pure'
        have := rn_set (w := w) (os := os) (q := q) (t := t + 2 * run.length + i) (pre := l) (post := []) (es := lastE t (run.take i)) (n := i) (k := k) (tk := t + 2 * i) (v := .str v (t + 2 * i + 1)) h28 (by rw [lastE_length]; omega) hm.1 hm.2
          (by intro e he; obtain ⟨y, hy, e'⟩ := lastE_mem he; rw [e']; have := hlt y hy; dsimp only at this; omega)
        rw [take_snoc hr, lastE_snoc, hln]
        exact this

noncomputable def Plain (S : List DictEntry) : Prop := ∀ e ∈ S, ∃ k t v, e = ⟨k, .int k t, v⟩

theorem sub_dict : isSubtype (.type "dict") (.type "dict") = Sem.pure true := by kernel_rfl
theorem look_iter : typeLookup (.type "dict") "__iter__" = Sem.pure (some (.builtin "dict.__iter__")) := by
  rw [typeLookup_type, builtinLookup_eq_fast]
  exact congrArg Sem.pure (by kernel_rfl)

theorem rn_ents {s : Shared} {d : Addr} {es : List DictEntry} {n : Nat} {part : Option Value} (hg : s.heap.get? d = some (dO es n)) : Rn w 1 (dictEntries d part) q s es.toArray q s := by
  unfold dictEntries loadPart
  exact Rn.bind (n := 1) (m := 0) (a := dO es n) (q₁ := q) (s₁ := s) (Rn.load hg Rn.pure) Rn.pure
theorem rn_epoch {s : Shared} {d : Addr} {es : List DictEntry} {n : Nat} {part : Option Value} (hg : s.heap.get? d = some (dO es n)) : Rn w 1 (dictEpoch d part) q s n q s := by
  unfold dictEpoch loadPart
  exact Rn.bind (n := 1) (m := 0) (a := dO es n) (q₁ := q) (s₁ := s) (Rn.load hg Rn.pure) Rn.pure

theorem rn_merge {pre mid : List Obj} {M S : List DictEntry} {nM nS : Nat} (h28 : 28 ≤ pre.length) (hM : M ≠ []) (hz : M.length + S.length < 1000) (hp : Plain S) (hd : (M ++ S).Pairwise fun a b => a.hash < b.hash) :
    Rn w (5 + 6 * S.length) (mergeMapping pre.length (.ref (pre.length + 1 + mid.length)) false) q (stt (pre ++ dO M nM :: (mid ++ [dO S nS])) t os) () q (stt (pre ++ dO (M ++ S) (nM + S.length) :: (mid ++ [dO S nS])) t os) := by
  have gS : ∀ (X : List DictEntry) (n : Nat), (stt (pre ++ dO X n :: (mid ++ [dO S nS])) t os).heap.get? (pre.length + 1 + mid.length) = some (dO S nS) := fun X n => hp_get (by
    rw [List.getElem?_append_right (by omega), show pre.length + 1 + mid.length - pre.length = mid.length + 1 by omega, List.getElem?_cons_succ]
    simp)
  have gM : ∀ (X : List DictEntry) (n : Nat), (stt (pre ++ dO X n :: (mid ++ [dO S nS])) t os).heap.get? pre.length = some (dO X n) := fun X n => hp_get get_at
  unfold mergeMapping
  refine Rn.cast (n := 1 + (1 + (0 + (1 + (1 + (1 + 6 * S.length)))))) ?_ rfl (by omega)
  refine Rn.bind (a := true) (q₁ := q) (s₁ := stt (pre ++ dO M nM :: (mid ++ [dO S nS])) t os) ?_ ?_
  · unfold isInstance
    refine Rn.bind (n := 1) (m := 0) (a := .type "dict") (q₁ := q) (s₁ := stt (pre ++ dO M nM :: (mid ++ [dO S nS])) t os) ?_ ?_
    · exact Rn.bind (n := 1) (m := 0) (Rn.load (gS M nM) Rn.pure) Rn.pure
    · rw [sub_dict]; exact Rn.pure
  rw [if_pos rfl]
  refine Rn.bind (a := some (.builtin "dict.__iter__")) (q₁ := q) (s₁ := stt (pre ++ dO M nM :: (mid ++ [dO S nS])) t os) ?_ ?_
  · unfold specialOf
    refine Rn.bind (n := 1) (m := 0) (a := .type "dict") (q₁ := q) (s₁ := stt (pre ++ dO M nM :: (mid ++ [dO S nS])) t os) ?_ ?_
    · exact Rn.bind (n := 1) (m := 0) (Rn.load (gS M nM) Rn.pure) Rn.pure
    · rw [look_iter]; exact Rn.pure
  have e : ((some (Value.builtin "dict.__iter__") == some (Value.builtin "dict.__iter__")) : Bool) = true := by rw [beq_iff_eq]
  rw [e]
  refine Rn.bind (a := true) (q₁ := q) (s₁ := stt (pre ++ dO M nM :: (mid ++ [dO S nS])) t os) Rn.pure' ?_
  · dsimp only
    rw [if_neg (show ¬ ((pre.length + 1 + mid.length == sysModules) = true) by rw [beq_iff_eq]; show ¬ (pre.length + 1 + mid.length = 1); omega)]
    refine Rn.bind (a := M.toArray) (q₁ := q) (s₁ := stt (pre ++ dO M nM :: (mid ++ [dO S nS])) t os) (rn_ents (gM M nM)) ?_
    rw [if_neg (by cases M with | nil => exact absurd rfl hM | cons a r => simp)]
    refine Rn.bind (a := S.toArray) (q₁ := q) (s₁ := stt (pre ++ dO M nM :: (mid ++ [dO S nS])) t os) (rn_ents (gS M nM)) ?_
    refine Rn.bind (a := nS) (q₁ := q) (s₁ := stt (pre ++ dO M nM :: (mid ++ [dO S nS])) t os) (rn_epoch (gS M nM)) ?_
    have key := rn_for (w := w) (q := q) (c := 6) (f := fun (i : Nat) (_ : PUnit) => do
        let some e := (← dictEntries (pre.length + 1 + mid.length))[i]? | unsupported "dict.changed-during-merge"
        holding [e.key, e.val] do
          if false = true then
            if (← dictFind pre.length e.key e.hash).isSome then rule "dict.merge.duplicate-key"; raiseNew (← newExc (.type "KeyError") [e.key])
          dictPut pre.length e.hash e.key e.val
        if (← dictEpoch (pre.length + 1 + mid.length)) != nS then unsupported "dict.changed-during-merge"
        pure (ForInStep.yield PUnit.unit)) (List.range S.length) (fun i => stt (pre ++ dO (M ++ S.take i) (nM + i) :: (mid ++ [dO S nS])) t os) ?_
    · rw [List.length_range, List.take_length] at key
      simp only [List.take_zero, List.append_nil, Nat.add_zero] at key
      simp only [List.size_toArray]
      exact Rn.bind (m := 0) key Rn.pure'
    · intro i x hx
      have hi : i < S.length := by
        have := (List.getElem?_eq_some_iff.mp hx).1
        rwa [List.length_range] at this
      obtain rfl : x = i := by rw [List.getElem?_range hi] at hx; exact (Option.some.inj hx).symm
      have hSi : S[x]? = some S[x] := List.getElem?_eq_getElem hi
      obtain ⟨k, tk, v, he⟩ := hp S[x] (List.getElem_mem hi)
      refine Rn.bind (n := 1) (m := 5) (a := S.toArray) (q₁ := q) (s₁ := stt (pre ++ dO (M ++ S.take x) (nM + x) :: (mid ++ [dO S nS])) t os) (rn_ents (gS _ _)) ?_
      simp only [List.getElem?_toArray, hSi, he]
      refine Rn.bind (n := 4) (m := 1) (a := ()) (q₁ := q) (s₁ := stt (pre ++ dO (M ++ S.take (x + 1)) (nM + (x + 1)) :: (mid ++ [dO S nS])) t os) (Rn.holding ?_) ?_
      · rw [take_snoc hSi, he, ← List.append_assoc]
        rw [if_neg Bool.false_ne_true]
        refine rn_put h28 ?_ ?_
        · rw [List.length_append, List.length_take]; omega
        · intro e hme
          have hk : k = S[x].hash := by rw [he]
          rw [hk]
          have : e.hash < S[x].hash := by
            rcases List.mem_append.mp hme with hme | hme
            · exact (List.pairwise_append.mp hd).2.2 e hme _ (List.getElem_mem hi)
            · obtain ⟨j, hj, rfl⟩ := List.mem_iff_getElem.mp hme
              rw [List.length_take] at hj
              rw [List.getElem_take]
              exact List.pairwise_iff_getElem.mp (List.pairwise_append.mp hd).2.1 j x (by omega) hi (by omega)
          omega
      · refine Rn.bind (n := 1) (m := 0) (a := nS) (q₁ := q) (s₁ := stt (pre ++ dO (M ++ S.take (x + 1)) (nM + (x + 1)) :: (mid ++ [dO S nS])) t os) (rn_epoch (gS _ _)) ?_
        rw [if_neg (by simp)]
        exact Rn.pure'
end
end Mine
set_option Elab.async false
set_option maxRecDepth 100000
namespace Mine
open PySem PySem.W PyProof.Rows
section
variable {w : World} {os : OsState} {q : Pos} {t : Nat}

noncomputable abbrev DSt := Option Addr × List (Sem Value × Sem Value)
noncomputable def flushD (run : List (Sem Value × Sem Value)) (main : Option Addr) : Sem (Option Addr) :=
  if run.isEmpty = true then pure main
  else match main with
    | none => do return some (← subDict run)
    | some d => do
      let sub ← holding [Value.ref d] (subDict run)
      (holding [Value.ref d, Value.ref sub] (mergeMapping d (Value.ref sub) false)).onRaise fun x => do
        let _ ← holding [Value.ref d, x] (runValue (Code.builtin "proto.let_go" {}))
        pure ()
      return some d
noncomputable def BodyD (f : Option (Sem Value) × Sem Value → DSt → Sem (ForInStep DSt)) : Prop :=
  ∀ k v main run, f (some k, v) (main, run) = (if ((run ++ [(k, v)]).length == 17) = true then flushD (run ++ [(k, v)]) main >>= fun m => pure (ForInStep.yield (m, []))
    else pure (ForInStep.yield (main, run ++ [(k, v)])))
noncomputable def itD (q : Pos) (x : Int × Str) : Option (Sem Value) × Sem Value := (some (mkInt x.1), vTree q x.2)
noncomputable def finD (s : DSt) : Sem Value := flushD s.2 s.1 >>= fun m => match m with | some d => pure (Value.ref d) | none => newDict

theorem loop_few {f} (hf : BodyD f) {rest : List (Option (Sem Value) × Sem Value)} {main : Option Addr} : ∀ (xs : List (Int × Str)) (run : List (Sem Value × Sem Value)), run.length + xs.length < 17 →
    forIn (xs.map (itD q) ++ rest) (main, run) f = forIn rest (main, run ++ xs.map (pTree q)) f
  | [], run, _ => by simp
  | x :: r, run, h => by
    rw [List.map_cons, List.cons_append, List.forIn_cons]
    show f (some (mkInt x.1), vTree q x.2) (main, run) >>= _ = _
    rw [hf, if_neg (by rw [List.length_append, beq_iff_eq]; simp only [List.length_cons, List.length_nil] at h ⊢; omega)]
    show forIn (r.map (itD q) ++ rest) (main, run ++ [pTree q x]) f = _
    rw [loop_few hf r _ (by simp only [List.length_append, List.length_cons, List.length_nil] at h ⊢; omega)]
    simp
theorem loop_full {f} (hf : BodyD f) {rest : List (Option (Sem Value) × Sem Value)} {main : Option Addr} {xs : List (Int × Str)} (h : xs.length = 17) :
    forIn (xs.map (itD q) ++ rest) (main, []) f = flushD (xs.map (pTree q)) main >>= fun m => forIn rest (m, []) f := by
  obtain ⟨ys, z, rfl⟩ : ∃ ys z, xs = ys ++ [z] := ⟨xs.dropLast, xs.getLast (by intro e; subst e; cases h), (List.dropLast_concat_getLast _).symm⟩
  have hy : ys.length = 16 := by simpa using h
  rw [List.map_append, List.append_assoc, loop_few hf ys [] (by simp; omega)]
  show forIn (itD q z :: rest) (main, [] ++ ys.map (pTree q)) f = _
  rw [List.forIn_cons, List.nil_append]
  show f (some (mkInt z.1), vTree q z.2) (main, ys.map (pTree q)) >>= _ = _
  rw [hf, if_pos (by simp [hy])]
  rw [show ((ys ++ [z]).map (pTree q)) = ys.map (pTree q) ++ [(mkInt z.1, vTree q z.2)] by simp [pTree]]
  show (flushD _ main >>= _) >>= _ = _
  rw [Sem.bind_eq_wrap', Sem.bind_eq_wrap', Sem.bind_eq_wrap', Sem.wrap_wrap]
  rfl

noncomputable def entsD : Nat → List (List (Int × Str)) → List (Int × Str) → List DictEntry
  | t, [], last => lastE t last
  | t, c :: cs, last => runE t c ++ entsD (t + 51) cs last
noncomputable def subsD : Nat → List (List (Int × Str)) → List (Int × Str) → List Obj
  | t, [], last => [dO (lastE t last) last.length]
  | t, c :: cs, last => dO (runE t c) c.length :: subsD (t + 51) cs last
noncomputable def lenD : List (List (Int × Str)) → List (Int × Str) → Nat
  | [], last => last.length
  | c :: cs, last => c.length + lenD cs last
noncomputable def stepsD : List (List (Int × Str)) → List (Int × Str) → Nat
  | [], last => (13 * last.length + 1) + (5 + 6 * last.length)
  | c :: cs, last => (13 * c.length + 2) + (5 + 6 * c.length) + stepsD cs last
theorem plain_run : ∀ (run : List (Int × Str)) (t : Nat), Plain (runE t run)
  | [], _, e, h => nomatch h
  | (k, v) :: r, t, e, h => by
    rcases List.mem_cons.mp h with rfl | h
    · exact ⟨_, _, _, rfl⟩
    · exact plain_run r _ e h
theorem plain_last : ∀ (run : List (Int × Str)) (t : Nat), Plain (lastE t run)
  | [], _, e, h => nomatch h
  | (k, v) :: r, t, e, h => by
    rcases List.mem_cons.mp h with rfl | h
    · exact ⟨_, _, _, rfl⟩
    · exact plain_last r _ e h
theorem inc_run : ∀ {run : List (Int × Str)} {t : Nat}, (runE t run).Pairwise (fun a b => a.hash < b.hash) → Inc run
  | [], _, _ => .nil
  | (k, v) :: r, t, h => by
    obtain ⟨h1, h2⟩ := List.pairwise_cons.mp h
    refine List.pairwise_cons.mpr ⟨fun y hy => ?_, inc_run h2⟩
    obtain ⟨i, hi, rfl⟩ := List.mem_iff_getElem.mp hy
    have : ∀ (run : List (Int × Str)) (t i : Nat) (hi : i < run.length), ∃ e ∈ runE t run, e.hash = run[i].1 := by
      intro run
      induction run with
      | nil => intro t i hi; cases hi
      | cons x r ih =>
        obtain ⟨a, b⟩ := x
        intro t i hi
        cases i with
        | zero => exact ⟨_, .head _, rfl⟩
        | succ i => obtain ⟨e, he, h⟩ := ih (t + 3) i (by simpa using hi); exact ⟨e, .tail _ he, by simpa using h⟩
    obtain ⟨e, he, h⟩ := this r (t + 3) i hi
    rw [← h]; exact h1 e he
theorem inc_last : ∀ {run : List (Int × Str)} {t : Nat}, (lastE t run).Pairwise (fun a b => a.hash < b.hash) → Inc run
  | [], _, _ => .nil
  | (k, v) :: r, t, h => by
    obtain ⟨h1, h2⟩ := List.pairwise_cons.mp h
    refine List.pairwise_cons.mpr ⟨fun y hy => ?_, inc_last h2⟩
    obtain ⟨i, hi, rfl⟩ := List.mem_iff_getElem.mp hy
    have : ∀ (run : List (Int × Str)) (t i : Nat) (hi : i < run.length), ∃ e ∈ lastE t run, e.hash = run[i].1 := by
      intro run
      induction run with
      | nil => intro t i hi; cases hi
      | cons x r ih =>
        obtain ⟨a, b⟩ := x
        intro t i hi
        cases i with
        | zero => exact ⟨_, .head _, rfl⟩
        | succ i => obtain ⟨e, he, h⟩ := ih (t + 2) i (by simpa using hi); exact ⟨e, .tail _ he, by simpa using h⟩
    obtain ⟨e, he, h⟩ := this r (t + 2) i hi
    rw [← h]; exact h1 e he

theorem rn_flush {l subs : List Obj} {M S : List DictEntry} {nM nS n : Nat} {run : List (Int × Str)} {t' : Nat} (h28 : 28 ≤ l.length) (hM : M ≠ []) (hr : run ≠ []) (hz : M.length + S.length < 1000) (hp : Plain S) (hd : (M ++ S).Pairwise fun a b => a.hash < b.hash)
    (hsub : Rn w n (subDict (run.map (pTree q))) q (stt (l ++ dO M nM :: subs) t os) (l ++ dO M nM :: subs).length q (stt ((l ++ dO M nM :: subs) ++ [dO S nS]) t' os)) :
    Rn w (n + (5 + 6 * S.length)) (flushD (run.map (pTree q)) (some l.length)) q (stt (l ++ dO M nM :: subs) t os) (some l.length) q (stt (l ++ dO (M ++ S) (nM + S.length) :: (subs ++ [dO S nS])) t' os) := by
  unfold flushD
  rw [if_neg (by cases run with | nil => exact absurd rfl hr | cons a r => simp)]
  refine Rn.bind (a := (l ++ dO M nM :: subs).length) (q₁ := q) (s₁ := stt ((l ++ dO M nM :: subs) ++ [dO S nS]) t' os) (Rn.holding hsub) ?_
  refine Rn.bind (n := 5 + 6 * S.length) (m := 0) (a := ()) (q₁ := q) (s₁ := stt (l ++ dO (M ++ S) (nM + S.length) :: (subs ++ [dO S nS])) t' os) (Rn.onRaise (Rn.holding ?_)) Rn.pure'
  have e : (l ++ dO M nM :: subs).length = l.length + 1 + subs.length := by simp; omega
  rw [e, List.append_assoc, List.cons_append]
  exact rn_merge h28 hM hz hp hd

theorem rn_chunks {f} (hf : BodyD f) {l : List Obj} (h28 : 28 ≤ l.length) {last : List (Int × Str)} (hl : last ≠ []) (hl15 : last.length ≤ 15) (hsl : Small last) :
    ∀ (cs : List (List (Int × Str))) (t : Nat) (M : List DictEntry) (nM : Nat) (subs : List Obj), (∀ c ∈ cs, c.length = 17) → (∀ c ∈ cs, Small c) → M ≠ [] → M.length + lenD cs last < 1000 →
      (M ++ entsD t cs last).Pairwise (fun a b => a.hash < b.hash) →
      Rn w (stepsD cs last) (forIn (cs.flatMap (fun c => c.map (itD q)) ++ last.map (itD q)) (some l.length, []) f >>= finD) q (stt (l ++ dO M nM :: subs) t os) (.ref l.length) q
        (stt (l ++ dO (M ++ entsD t cs last) (nM + lenD cs last) :: (subs ++ subsD t cs last)) (t + 3 * lenD cs last) os)
  | [], t, M, nM, subs, _, _, hM, hz, hd => by
    have e := loop_few (q := q) hf (rest := []) (main := some l.length) last [] (by simp; omega)
    rw [List.append_nil] at e
    rw [List.flatMap_nil, List.nil_append, e]
    show Rn w _ (forIn [] (some l.length, [] ++ last.map (pTree q)) f >>= finD) q _ _ q _
    rw [List.forIn_nil, List.nil_append]
    show Rn w _ (flushD (last.map (pTree q)) (some l.length) >>= _) q _ _ q _
    refine Rn.bind (n := stepsD [] last) (m := 0) (a := some l.length) (q₁ := q) (s₁ := stt (l ++ dO (M ++ lastE t last) (nM + last.length) :: (subs ++ [dO (lastE t last) last.length])) (t + 3 * last.length) os) ?_ Rn.pure
    have hd' : (M ++ lastE t last).Pairwise (fun a b => a.hash < b.hash) := hd
    have key := rn_flush (w := w) (os := os) (q := q) (t := t) (l := l) (subs := subs) (M := M) (S := lastE t last) (nM := nM) (nS := last.length) (run := last) (t' := t + 3 * last.length) h28 hM hl
      (by rw [lastE_length]; exact hz) (plain_last _ _) hd' (rn_subShort (by simp; omega) (inc_last (List.pairwise_append.mp hd').2.1) hsl hl15)
    rw [lastE_length] at key
    exact key
  | c :: cs, t, M, nM, subs, h17, hsm, hM, hz, hd => by
    have hc : c.length = 17 := h17 c (.head _)
    rw [List.flatMap_cons, List.append_assoc, loop_full hf hc]
    have hd' : (M ++ runE t c ++ entsD (t + 51) cs last).Pairwise (fun a b => a.hash < b.hash) := by rw [List.append_assoc]; exact hd
    have hd2 := (List.pairwise_append.mp hd').1
    have hne : M ++ runE t c ≠ [] := by intro e; exact hM (List.append_eq_nil_iff.mp e).1
    have hz' : M.length + (c.length + lenD cs last) < 1000 := hz
    have key := rn_flush (w := w) (os := os) (q := q) (t := t) (l := l) (subs := subs) (M := M) (S := runE t c) (nM := nM) (nS := c.length) (run := c) (t' := t + 3 * c.length) h28 hM (by intro e; subst e; cases hc)
      (by rw [runE_length]; omega) (plain_run _ _) hd2 (rn_subLong (by simp; omega) (inc_run (List.pairwise_append.mp hd2).2.1) (hsm c (.head _)) (by omega) (by omega))
    rw [runE_length] at key
    have rc := rn_chunks hf h28 hl hl15 hsl cs (t + 51) (M ++ runE t c) (nM + c.length) (subs ++ [dO (runE t c) c.length]) (fun x hx => h17 x (.tail _ hx)) (fun x hx => hsm x (.tail _ hx)) hne
      (by rw [List.length_append, runE_length]; omega) hd'
    rw [show t + 51 = t + 3 * c.length by omega] at rc
    have asc : (flushD (c.map (pTree q)) (some l.length) >>= fun m => forIn (cs.flatMap (fun c => c.map (itD q)) ++ last.map (itD q)) (m, []) f) >>= finD =
        flushD (c.map (pTree q)) (some l.length) >>= fun m => (forIn (cs.flatMap (fun c => c.map (itD q)) ++ last.map (itD q)) (m, []) f >>= finD) := by
      rw [Sem.bind_eq_wrap', Sem.bind_eq_wrap', Sem.bind_eq_wrap', Sem.wrap_wrap]
      refine Sem.wrap_congr _ _ _ (fun m => ?_) fun _ => rfl
      rw [Sem.bind_eq_wrap']
    rw [asc]
    have all := Rn.bind (f := fun m : Option Addr => (forIn (cs.flatMap (fun c => c.map (itD q)) ++ last.map (itD q)) ((m, []) : DSt) f >>= finD)) key rc
    refine Rn.cast ?_ rfl (show stepsD (c :: cs) last = (13 * c.length + 2 + (5 + 6 * c.length)) + stepsD cs last from rfl)
    have e1 : M ++ entsD t (c :: cs) last = M ++ runE t c ++ entsD (t + 3 * c.length) cs last := by rw [List.append_assoc, show t + 3 * c.length = t + 51 by omega]; rfl
    have e2 : nM + lenD (c :: cs) last = nM + c.length + lenD cs last := by show nM + (c.length + lenD cs last) = _; omega
    have e3 : subs ++ subsD t (c :: cs) last = subs ++ [dO (runE t c) c.length] ++ subsD (t + 3 * c.length) cs last := by rw [List.append_assoc, show t + 3 * c.length = t + 51 by omega]; rfl
    have e4 : t + 3 * lenD (c :: cs) last = t + 3 * c.length + 3 * lenD cs last := by show t + 3 * (c.length + lenD cs last) = _; omega
    rw [e1, e2, e3, e4]
    exact all
end
end Mine
set_option Elab.async false
set_option maxRecDepth 100000
namespace Mine
open PySem PySem.W PyProof.Rows
noncomputable section
noncomputable def LD (P : Params) : List Obj := [o0 P, o1 P, o2 P, o3e P, o4 P, o5 P, o6 P, o7 P, o8 P, o9 P, o10 P, o11 P, o12 P, o13 P, o14 P, o15 P, o16 P, o17 P, o18 P, o19 P, o20 P, o21 P, o22 P, o23 P, o24 P, o25 P, o26 P, o27 P, o28 P, o29e P, o30 P, o31 P, o32 P, o33 P, o34 P, o35 P, o36 P, o37 P, o38 P, o39 P, o40 P, o41 P, o42 P, o43 P, o44 P, o45 P, o46 P, o47 P, o48 P, o49 P, o50 P, o51 P, o52 P, o53 P, o54 P, o55 P, o56 P, o57 P, o58 P, o59 P, o60 P, o61 P, o62 P, o63 P, o64 P, o65 P, o66 P, o67 P, o68 P, o69 P, o70 P, o71 P, o72 P, o73 P, o74 P, o75 P, o76 P, o77 P, o78 P, o79 P, o80 P, o81 P, o82 P, o83 P, o84 P, o85 P, o86 P, o87 P, o88 P, o89 P, o90 P, o91 P, o92 P, o93 P, o94 P, o95 P, o96 P, o97 P, o98 P, o99 P, o100 P, o101 P, o102 P, o103 P, o104 P, o105 P, o106 P, o107 P, o108 P]
noncomputable def Tm (P : Params) : BT := (.node (o0 P) (.node (o1 P) (.node (o3e P) (.node (o7 P) (.node (o15 P) (.node (o31 P) (.node (o63 P) (.node (o127 P) .nil .nil) .nil) (.node (o95 P) .nil .nil)) (.node (o47 P) (.node (o79 P) (.node (o143 P) .nil .nil) .nil) (.node (o111 P) .nil .nil))) (.node (o23 P) (.node (o39 P) (.node (o71 P) (.node (o135 P) .nil .nil) .nil) (.node (o103 P) .nil .nil)) (.node (o55 P) (.node (o87 P) .nil .nil) (.node (o119 P) .nil .nil)))) (.node (o11 P) (.node (o19 P) (.node (o35 P) (.node (o67 P) (.node (o131 P) .nil .nil) .nil) (.node (o99 P) .nil .nil)) (.node (o51 P) (.node (o83 P) (.node (o147 P) .nil .nil) .nil) (.node (o115 P) .nil .nil))) (.node (o27 P) (.node (o43 P) (.node (o75 P) (.node (o139 P) .nil .nil) .nil) (.node (o107 P) .nil .nil)) (.node (o59 P) (.node (o91 P) .nil .nil) (.node (o123 P) .nil .nil))))) (.node (o5 P) (.node (o9 P) (.node (o17 P) (.node (o33 P) (.node (o65 P) (.node (o129 P) .nil .nil) .nil) (.node (o97 P) .nil .nil)) (.node (o49 P) (.node (o81 P) (.node (o145 P) .nil .nil) .nil) (.node (o113 P) .nil .nil))) (.node (o25 P) (.node (o41 P) (.node (o73 P) (.node (o137 P) .nil .nil) .nil) (.node (o105 P) .nil .nil)) (.node (o57 P) (.node (o89 P) .nil .nil) (.node (o121 P) .nil .nil)))) (.node (o13 P) (.node (o21 P) (.node (o37 P) (.node (o69 P) (.node (o133 P) .nil .nil) .nil) (.node (o101 P) .nil .nil)) (.node (o53 P) (.node (o85 P) .nil .nil) (.node (o117 P) .nil .nil))) (.node (o29e P) (.node (o45 P) (.node (o77 P) (.node (o141 P) .nil .nil) .nil) (.node (o109 P) .nil .nil)) (.node (o61 P) (.node (o93 P) .nil .nil) (.node (o125 P) .nil .nil)))))) (.node (o2 P) (.node (o4 P) (.node (o8 P) (.node (o16 P) (.node (o32 P) (.node (o64 P) (.node (o128 P) .nil .nil) .nil) (.node (o96 P) .nil .nil)) (.node (o48 P) (.node (o80 P) (.node (o144 P) .nil .nil) .nil) (.node (o112 P) .nil .nil))) (.node (o24 P) (.node (o40 P) (.node (o72 P) (.node (o136 P) .nil .nil) .nil) (.node (o104 P) .nil .nil)) (.node (o56 P) (.node (o88 P) .nil .nil) (.node (o120 P) .nil .nil)))) (.node (o12 P) (.node (o20 P) (.node (o36 P) (.node (o68 P) (.node (o132 P) .nil .nil) .nil) (.node (o100 P) .nil .nil)) (.node (o52 P) (.node (o84 P) .nil .nil) (.node (o116 P) .nil .nil))) (.node (o28 P) (.node (o44 P) (.node (o76 P) (.node (o140 P) .nil .nil) .nil) (.node (o108 P) .nil .nil)) (.node (o60 P) (.node (o92 P) .nil .nil) (.node (o124 P) .nil .nil))))) (.node (o6 P) (.node (o10 P) (.node (o18 P) (.node (o34 P) (.node (o66 P) (.node (o130 P) .nil .nil) .nil) (.node (o98 P) .nil .nil)) (.node (o50 P) (.node (o82 P) (.node (o146 P) .nil .nil) .nil) (.node (o114 P) .nil .nil))) (.node (o26 P) (.node (o42 P) (.node (o74 P) (.node (o138 P) .nil .nil) .nil) (.node (o106 P) .nil .nil)) (.node (o58 P) (.node (o90 P) .nil .nil) (.node (o122 P) .nil .nil)))) (.node (o14 P) (.node (o22 P) (.node (o38 P) (.node (o70 P) (.node (o134 P) .nil .nil) .nil) (.node (o102 P) .nil .nil)) (.node (o54 P) (.node (o86 P) .nil .nil) (.node (o118 P) .nil .nil))) (.node (o30 P) (.node (o46 P) (.node (o78 P) (.node (o142 P) .nil .nil) .nil) (.node (o110 P) .nil .nil)) (.node (o62 P) (.node (o94 P) .nil .nil) (.node (o126 P) .nil .nil)))))))
noncomputable def sm (w : World) (os : OsState) : SharedT := ⟨Tm w.params, 148, {}, #[], {}, 2414, os⟩
noncomputable def subsL (P : Params) : List Obj := [o110 P, o111 P, o112 P, o113 P, o114 P, o115 P, o116 P, o117 P, o118 P, o119 P, o120 P, o121 P, o122 P, o123 P, o124 P, o125 P, o126 P, o127 P, o128 P, o129 P, o130 P, o131 P, o132 P, o133 P, o134 P, o135 P, o136 P, o137 P, o138 P, o139 P, o140 P, o141 P, o142 P, o143 P, o144 P, o145 P, o146 P, o147 P]

noncomputable def stD1 : Stmt := match pw.main.body[16]? with | some s => s | none => .Pass ⟨0, 0, 0, 0⟩
noncomputable def dtg : List PySem.Expr := match stD1 with | .Assign t _ _ => t | _ => []
noncomputable def dvl : PySem.Expr := match stD1 with | .Assign _ v _ => v | _ => .Tuple [] 0 ⟨0, 0, 0, 0⟩
noncomputable def dps : Pos := match stD1 with | .Assign _ _ p => p | _ => ⟨0, 0, 0, 0⟩
noncomputable def dks : List (Option PySem.Expr) := match dvl with | .Dict k _ _ => k | _ => []
noncomputable def dvs : List PySem.Expr := match dvl with | .Dict _ v _ => v | _ => []
noncomputable def dpq : Pos := match dvl with | .Dict _ _ p => p | _ => ⟨0, 0, 0, 0⟩
noncomputable def chunksD : List (List (Int × Str)) := (List.range' 1 37).map b3Run
noncomputable def itemsD : List (Option (Sem Value) × Sem Value) := (evalEachOpt dks env0).zip ((evalEach dvs env0).map fun v => do let x ← v; standAt dpq; pure x)
theorem items_eq : itemsD = (b3Run 0).map (itD dpq) ++ (chunksD.flatMap (fun c => c.map (itD dpq)) ++ (b3Run 38).map (itD dpq)) := by kernel_rfl

noncomputable def chk : List DictEntry → Bool
  | [] => true
  | a :: r => (match r with | [] => true | b :: _ => decide (a.hash < b.hash)) && chk r
theorem chk_pw : ∀ {l : List DictEntry}, chk l = true → l.Pairwise (fun a b => a.hash < b.hash)
  | [], _ => .nil
  | [a], _ => List.pairwise_singleton _ a
  | a :: b :: r, h => by
    obtain ⟨h1, h2⟩ := Bool.and_eq_true_iff.mp h
    have h1 : a.hash < b.hash := of_decide_eq_true h1
    have ih := chk_pw h2
    refine List.pairwise_cons.mpr ⟨fun y hy => ?_, ih⟩
    rcases List.mem_cons.mp hy with rfl | hy
    · exact h1
    · exact Int.lt_trans h1 ((List.pairwise_cons.mp ih).1 y hy)
noncomputable def entsAll : List DictEntry := runE 464 (b3Run 0) ++ entsD 515 chunksD (b3Run 38)
theorem ents_chk : chk entsAll = true := by kernel_rfl
theorem ents_eq : entsAll = b3All := by kernel_rfl
noncomputable def smallB (l : List (Int × Str)) : Bool := l.all fun x => decide (0 ≤ x.1) && decide (x.1 < 2 ^ 31)
theorem small_of {l : List (Int × Str)} (h : smallB l = true) : Small l := fun x hx => by
  have := List.all_eq_true.mp h x hx
  simpa using this
theorem small_all : ((b3Run 0 :: (chunksD ++ [b3Run 38])).all fun c => smallB c) = true := by kernel_rfl
theorem len_all : ((b3Run 0 :: chunksD).all fun c => c.length == 17) = true := by kernel_rfl
theorem len_last : (b3Run 38).length = 4 := by kernel_rfl
theorem lenD_all : lenD chunksD (b3Run 38) = 633 := by kernel_rfl
theorem subs_eq (P : Params) : subsD 515 chunksD (b3Run 38) = subsL P := by kernel_rfl

theorem se_abs (w : World) (os : OsState) : (se w os).abs = stt (LD w.params) 464 os := by kernel_rfl
theorem sm_abs (w : World) (os : OsState) : (sm w os).abs = stt (LD w.params ++ dO b3All 650 :: subsL w.params) 2414 os := by kernel_rfl
theorem LD_len (P : Params) : (LD P).length = 109 := rfl

theorem rn_display (w : World) (os : OsState) : Rn w ((13 * 17 + 2) + stepsD chunksD (b3Run 38)) (dictDisplay itemsD) dpq (stt (LD w.params) 464 os) (.ref 109) dpq (stt (LD w.params ++ dO b3All 650 :: subsL w.params) 2414 os) := by
  have h17 : (b3Run 0).length = 17 := by have := List.all_eq_true.mp len_all _ (.head _); simpa using this
  have hs := List.all_eq_true.mp small_all
  have hch : ∀ c ∈ chunksD, c.length = 17 := fun c hc => by have := List.all_eq_true.mp len_all c (.tail _ hc); simpa using this
  have hd := chk_pw ents_chk
  have aux : ∀ f, BodyD f → Rn w ((13 * 17 + 2) + stepsD chunksD (b3Run 38)) (forIn itemsD ((none, []) : DSt) f >>= finD) dpq (stt (LD w.params) 464 os) (.ref 109) dpq (stt (LD w.params ++ dO b3All 650 :: subsL w.params) 2414 os) := by
    intro f hf
    rw [items_eq, loop_full hf h17]
    have k1 : Rn w (13 * 17 + 2) (flushD ((b3Run 0).map (pTree dpq)) none) dpq (stt (LD w.params) 464 os) (some 109) dpq (stt (LD w.params ++ [dO (runE 464 (b3Run 0)) 17]) 515 os) := by
      unfold flushD
      rw [if_neg (by intro e; rw [List.isEmpty_iff, List.map_eq_nil_iff] at e; rw [e] at h17; cases h17)]
      have := rn_subLong (w := w) (os := os) (q := dpq) (t := 464) (l := LD w.params) (run := b3Run 0) (by rw [LD_len]; decide) (inc_run (List.pairwise_append.mp hd).1) (small_of (hs _ (.head _))) (by omega) (by omega)
      rw [h17, LD_len] at this
      exact Rn.bind (m := 0) this Rn.pure'
    have k2 := rn_chunks (w := w) (os := os) (q := dpq) hf (l := LD w.params) (by rw [LD_len]; decide) (last := b3Run 38) (by intro e; have := len_last; rw [e] at this; cases this) (by rw [len_last]; decide)
      (small_of (hs _ (.tail _ (List.mem_append_right _ (.head _))))) chunksD 515 (runE 464 (b3Run 0)) 17 [] hch (fun c hc => small_of (hs c (.tail _ (List.mem_append_left _ hc))))
      (by intro e; have := runE_length (b3Run 0) 464; rw [e, h17] at this; cases this) (by rw [runE_length, h17, lenD_all]; decide) hd
    rw [LD_len, lenD_all, List.nil_append, subs_eq w.params] at k2
    have asc : (flushD ((b3Run 0).map (pTree dpq)) none >>= fun m => forIn (chunksD.flatMap (fun c => c.map (itD dpq)) ++ (b3Run 38).map (itD dpq)) ((m, []) : DSt) f) >>= finD =
        flushD ((b3Run 0).map (pTree dpq)) none >>= fun m => (forIn (chunksD.flatMap (fun c => c.map (itD dpq)) ++ (b3Run 38).map (itD dpq)) ((m, []) : DSt) f >>= finD) := by
      rw [Sem.bind_eq_wrap', Sem.bind_eq_wrap', Sem.bind_eq_wrap', Sem.wrap_wrap]
      refine Sem.wrap_congr _ _ _ (fun m => ?_) fun _ => rfl
      rw [Sem.bind_eq_wrap']
    rw [asc]
    have ee : runE 464 (b3Run 0) ++ entsD 515 chunksD (b3Run 38) = b3All := ents_eq
    rw [ee] at k2
    exact Rn.bind (f := fun m : Option Addr => (forIn (chunksD.flatMap (fun c => c.map (itD dpq)) ++ (b3Run 38).map (itD dpq)) ((m, []) : DSt) f >>= finD)) k1 k2
  unfold dictDisplay
  dsimp only
  exact aux _ (fun k v main run => rfl)
end
end Mine
set_option Elab.async false
set_option maxRecDepth 100000
namespace Mine
open PySem PySem.W PyProof.Rows
noncomputable section
noncomputable def tailD (v : Value) : Sem Flow := do assignStores env0 v (← swappedStores dtg dvl env0) ((assignEach dtg env0).map (·.2))
theorem exec_eq : exec stD1 env0 = .at dps fun _ => .at dpq fun _ => (dictDisplay itemsD >>= tailD) := by kernel_rfl
theorem r_tail (w : World) (os : OsState) : segRunT treeTable pw w 28 ann 1 50 (sm w os) ⟨(tailD (.ref 109)).wrap doneF deadEnd id id, cE, dpq, fr0⟩ = some (.next, sf w os, cE, pF) := by
  rw [PySem.W.Fast.te10110043849684766642, PySem.W.Fast.te14364793385576792824]
  kernel_rfl
noncomputable def nD : Nat := (13 * 17 + 2) + stepsD chunksD (b3Run 38)
theorem r_D (w : World) (os : OsState) : segRun treeTable pw w 28 ann 1 (nD + 0 + 1 + 1 + 50) (se w os).abs (pieceOf stD1 env0 cE pE' fr0) = some (.next, (sf w os).abs, cE, pF) := by
  have hR : Rn w (nD + 0 + 1 + 1) (.at dps fun _ => .at dpq fun _ => (dictDisplay itemsD >>= fun v => (Sem.pure v : Sem Value)) : Sem Value) pE' (se w os).abs (.ref 109) dpq (sm w os).abs := by
    rw [se_abs, sm_abs]
    exact Rn.at_ (Rn.at_ (Rn.bind (n := nD) (m := 0) (rn_display w os) Rn.pure))
  have h := hR (fun v => (tailD v).wrap doneF deadEnd id id) deadEnd id id cE fr0 50 (by intro e; cases e)
  have e : pieceOf stD1 env0 cE pE' fr0 = ⟨(.at dps fun _ => .at dpq fun _ => (dictDisplay itemsD >>= fun v => (Sem.pure v : Sem Value)) : Sem Value).wrap (fun v => (tailD v).wrap doneF deadEnd id id) deadEnd id id, cE, pE', fr0⟩ := by
    show (⟨(exec stD1 env0).wrap doneF deadEnd id id, cE, pE', fr0⟩ : Thread) = _
    rw [exec_eq]
    show (⟨Sem.at dps fun _ => Sem.at dpq fun _ => (dictDisplay itemsD >>= tailD).wrap doneF deadEnd id id, cE, pE', fr0⟩ : Thread) = ⟨Sem.at dps fun _ => Sem.at dpq fun _ => (dictDisplay itemsD >>= fun v => (Sem.pure v : Sem Value)).wrap (fun v => (tailD v).wrap doneF deadEnd id id) deadEnd id id, cE, pE', fr0⟩
    rw [Sem.bind_eq_wrap', Sem.bind_eq_wrap', Sem.wrap_wrap, Sem.wrap_wrap]
    rfl
  rw [e, h]
  exact segRun_of (r_tail w os)
end
end Mine
set_option Elab.async false
set_option maxRecDepth 100000
namespace Mine
open PySem PySem.W PyProof.Rows
noncomputable section
theorem r_open (w : World) : (fencedOpening treeTable pw w 30000).map (fun s => (s.heap, s.gens, s.drawn, s.toks)) = some (H0 w.params, #[], {}, 276) := by
  unfold fencedOpening
  rw [PySem.W.Fast.te10274390034422433532, PySem.W.Fast.te14364793385576792824, PySem.W.Fast.te14289696077712309145, PySem.W.Fast.te1435165496053646825]
  kernel_rfl
theorem r_pre (w : World) (os : OsState) : topGo treeTable pw w 28 ann 12 ⟨H0 w.params, #[], {}, 276, os⟩ (topStub pw) = some (⟨Ha w.params, #[], {}, 282, os⟩, ⟨denote treeTable cE, cE, p0, fr0⟩) := by
  rw [PySem.W.Fast.te15667345088766844465, PySem.W.Fast.te14364793385576792824, PySem.W.Fast.te11892475500146522536]
  kernel_rfl
theorem r_block (w : World) (os : OsState) : segRun treeTable pw w 28 ann 1 1 ⟨Ha w.params, #[], {}, 282, os⟩ (blockOf (behindTheImports pw) env0 cE p0 fr0) = some (.next, (sb w os).abs, cE, p0) := by
  rw [PySem.W.Fast.te14374325043358763698, PySem.W.Fast.te14364793385576792824]
  kernel_rfl
theorem r_A (w : World) (os : OsState) : segRunT treeTable pw w 28 ann 1 384 (sb w os) (piecesOf stA env0 cE p0 fr0) = some (.next, sc w os, cE, pC) := by
  rw [PySem.W.Fast.te10110043849684766642, PySem.W.Fast.te14364793385576792824]
  kernel_rfl
noncomputable def PB (w : World) : Prop := ∀ os : OsState, segRunT treeTable pw w 28 ann 1 999 (sc w os) (piecesOf stB env0 cE pC fr0) = some (.next, sd w os, cE, pD)
theorem r_B : ∀ w, PB w := by
  refine byRow2 "special-get-raises" (fun w => ?_) (fun w => ?_)
  all_goals (
    unfold PB; intro os
    rw [PySem.W.Fast.te10110043849684766642, PySem.W.Fast.te14364793385576792824]
    kernel_rfl)
theorem r_C (w : World) (os : OsState) : segRunT treeTable pw w 28 ann 1 30 (sd w os) (piecesOf stC env0 cE pD fr0) = some (.next, se w os, cE, pE') := by
  rw [PySem.W.Fast.te10110043849684766642, PySem.W.Fast.te14364793385576792824]
  kernel_rfl
theorem r_E (w : World) (os : OsState) : segRunT treeTable pw w 28 ann 1 353 (sf w os) (piecesOf stE env0 cE pF fr0) = some (.next, sg w os, cE, pG) := by
  rw [PySem.W.Fast.te10110043849684766642, PySem.W.Fast.te14364793385576792824]
  kernel_rfl
theorem r_fin (w : World) (os : OsState) : topRun treeTable pw w 28 ann 2 (sg w os).abs ⟨doneF .next, cE, pG, fr0⟩ = some ⟨Hg w.params, #[], {}, 2520, os⟩ := by
  rw [PySem.W.Fast.te14082659384304107361, PySem.W.Fast.te14364793385576792824]
  kernel_rfl
theorem r_size (w : World) : ((H0 w.params).isNs mainGlobals && (#[] : Array GenState).size == 0, (H0 w.params).objs.size, (H0 w.params).nsMap mainGlobals "__annotations__") = (true, 28, ann) := by
  kernel_rfl
theorem l1 (w : World) (os : OsState) : (staticsOk (importedModules pw.main.body) (H0 w.params) (Hg w.params) && namesBound pw (Hg w.params) && gensDone (Sg w os) && laidKept (H0 w.params) (Hg w.params)) = true := by
  kernel_rfl
theorem l2 (w : World) (os : OsState) : seen ((recsOf qv).map (·.name)) (ownsOf qv) [] { Sg w os with gens := #[] } = expectedOf qv := by
  rw [PySem.W.Fast.te5160383126252970620]
  kernel_rfl
theorem l3 (w : World) (os : OsState) : (Sg w os).heap.bltView = bltViewBooted := by
  kernel_rfl
theorem l4 (w : World) (os : OsState) : ((Sg w os).heap.keysOk (looseW qv loose) ((recsOf qv).map (·.name)) ((litsOf qv).map (·.1)) ((clssOf qv (looseW qv loose)).map (·.name)) && (Sg w os).heap.accountedOkI (importedModules pw.main.body) && (Sg w os).heap.isNs mainGlobals && (Sg w os).heap.isNs builtinsNs && tablesOk qv (Sg w os).heap && Xt (Sg w os) && (if true then (Sg w os).gens.size == 0 else !leftWithCleanup (Sg w os).gens)) = true := by
  kernel_rfl
theorem l5 (w : World) (os : OsState) : (tabsOk qv (Sg w os)) = true := by
  rw [PySem.W.Fast.te479339242167458305]
  kernel_rfl
theorem l6 (w : World) (os : OsState) : (pinSeenD qv (drecsOf qv) (Sg w os)) = pinGoodD (drecsOf qv) := by
  rw [PySem.W.Fast.te16090120013241838585]
  kernel_rfl
theorem l7 (w : World) (os : OsState) : plainSeenE qv (looseW qv loose) (Sg w os) = plainGoodE qv (looseW qv loose) := by
  rw [PySem.W.Fast.te2386780881361962483]
  kernel_rfl
theorem l8 (w : World) (os : OsState) : plainSeenD qv loose (Sg w os) = plainGoodD qv loose := by
  rw [PySem.W.Fast.te11698064438423848299]
  kernel_rfl
theorem l9 (w : World) (os : OsState) : wideSeen qv (Sg w os) = wideGood qv := by
  rw [PySem.W.Fast.te7317090234206586261]
  kernel_rfl
theorem l10 (w : World) (os : OsState) : clsSeenW qv loose (Sg w os) = clsGoodW qv loose := by
  rw [PySem.W.Fast.te7369524293546568484]
  kernel_rfl
theorem l11 (w : World) (os : OsState) : HK.obs (Sg w os) = HK.val w := by
  kernel_rfl
noncomputable def MM : Nat := 12 + (1 + (384 + (999 + (30 + ((nD + 0 + 1 + 1 + 50) + (353 + 2))))))
theorem body_eq : behindTheImports pw = stA ++ (stB ++ (stC ++ (stD1 :: (stE ++ [])))) := by kernel_rfl
theorem r_all (w : World) (os : OsState) : topRun treeTable pw w 28 ann MM ⟨H0 w.params, #[], {}, 276, os⟩ (topStub pw) = some (Sg w os) := by
  refine go_top (r_pre w os) ?_
  refine piece_block (r_block w os) ?_
  rw [body_eq]
  refine piece_app (segRun_of (r_A w os)) ?_
  refine piece_app (segRun_of (r_B w os)) ?_
  refine piece_app (segRun_of (r_C w os)) ?_
  refine piece_cons (r_D w os) ?_
  refine piece_app (segRun_of (r_E w os)) ?_
  exact piece_nil (r_fin w os)
theorem MM_le : Nat.ble MM 30000 = true := by kernel_rfl
end
end Mine
set_option Elab.async false
set_option maxRecDepth 100000
namespace Mine
open PySem PySem.W PyProof.Rows
noncomputable section
theorem pair_of {α β : Type} {a a' : α} {b b' : β} (x : a = a') (y : b = b') : (a, b) = (a', b') := by rw [x, y]
theorem seen_eq (w : World) (os : OsState) : openSeen qv loose (importedModules pw.main.body) Xt true (Sg w os) = openGood qv loose := by
  unfold openSeen openGood
  exact pair_of (l2 w os) (pair_of (l3 w os) (pair_of (l4 w os) (pair_of (l5 w os) (pair_of (l6 w os) (pair_of (l7 w os) (pair_of (l8 w os) (pair_of (l9 w os) (l10 w os))))))))
theorem left : LeftO pw qv loose Xt HK.obs HK.val 30000 := by
  refine LeftO.of_pieces (H₀ := H0) (H₁ := Hg) (gs₀ := #[]) (gs₁ := #[]) (d₀ := {}) (d₁ := {}) (k₀ := 276) (k₁ := 2520) (m₀ := 28) (ann := ann) (M := MM) r_open r_size r_all MM_le ?_
  intro w
  funext os
  exact pair_of (l1 w os) (pair_of (seen_eq w os) (l11 w os))
end
end Mine
set_option Elab.async false
set_option maxRecDepth 100000
namespace Mine

open PySem PySem.W PyProof.Rows PySem.Calls PySem.Spec

noncomputable def Grow (h h' : Heap) : Prop := ∀ b o, h.get? b = some o → h'.get? b = some o
theorem Grow.refl (h : Heap) : Grow h h := fun _ _ e => e
theorem Grow.trans {a b c : Heap} (x : Grow a b) (y : Grow b c) : Grow a c := fun d o e => y d o (x d o e)
theorem Grow.fr {h₀ h h' : Heap} {L : Addr} {m : Str → Option Value} (g : Grow h h') (F : Fr h₀ L h m) : Fr h₀ L h' m := ⟨F.ns.keeps g, fun b o e => g b o (F.keep b o e), F.above⟩
theorem Grow.news {h₀ h h' : Heap} {L : Addr} {news : List (Addr × Obj)} (g : Grow h h') (N : News h₀ L h news) : News h₀ L h' news := fun p hp => ⟨g _ _ (N p hp).1, (N p hp).2⟩
theorem Grow.of_fr {h₀ h : Heap} {L : Addr} {m : Str → Option Value} (F : Fr h₀ L h m) : Grow h₀ h := F.keep

structure Gd (w : World) (mean : ExcName → Option Value) (mg mb : Str → Option Value) (h : Heap) : Prop where
  X : (K w.params).In h
  T : Top qv (looseW qv loose) mean mg mb h
theorem Gd.grow {w : World} {mean : ExcName → Option Value} {mg mb : Str → Option Value} {h h' : Heap} (x : Gd w mean mg mb h) (g : Grow h h') : Gd w mean mg mb h' := ⟨x.X.keeps g, x.T.keeps g⟩

noncomputable abbrev Ar (dp un : Nat) (fr : Option (List Env)) (gd : Option (List Code)) : Around := { handled := none, depth := dp, frames := fr, guards := gd, units := un }
/-- a call of the def at f with vs answers (R t), the heap only grows -/
noncomputable def Spec (w : World) (d u : Nat) (f : Addr) (vs : List Value) (R : Tok → Value) : Prop :=
  ∀ (mean : ExcName → Option Value) (mg mb : Str → Option Value) (dp un : Nat) (fr : Option (List Env)) (gd : Option (List Code)) (s : Shared) (Q : Value → Shared → Prop) (E : Value → Shared → Prop), Gd w mean mg mb s.heap →
    dp + d < recursionLimit → un + u < cLine → (∀ t h' tk', Grow s.heap h' → Q (R t) { s with heap := h', toks := tk' }) → wpAny (model PySem.Challenge.rw_st0031_01.prog w) (Ar dp un fr gd) (PySem.call (.ref f) vs) Q E s

theorem spec_of {w : World} {d u i : Nat} {f : Addr} {vs : List Value} {R : Tok → Value} {name : Str} {pm cd : Value} {o : Obj} {binds : List (Str × Value)}
    (ho : (K w.params).lookup f = some o) (hdata : o.data = .func (docDef name (fA i) (fB i) (fS i) pm cd .none)) (hcd : codeIn (K w.params) cd name = true)
    (hbind : bindArgs (docDef name (fA i) (fB i) (fS i) pm cd .none) ⟨vs, []⟩ = pure binds) (hloc : (binds.all fun x => decide ((fS i).names.lookup x.1 = some .local)) = true)
    (hco : (fS i).isCoroutine = false) (hgen : (fS i).isGenerator = false) (hk : (fS i).kind = .function) (hcell : (fS i).names.all (fun x => x.2 != .cell) = true)
    (h : ∀ (mean : ExcName → Option Value) (mg mb : Str → Option Value) (dp un : Nat) (fr : Option (List Env)) (gd : Option (List Code)) (s : Shared) (h₁ : Heap) (tk : Nat) (Q : Value → Shared → Prop), Gd w mean mg mb s.heap → dp + (d + 1) < recursionLimit → un + (u + 3) < cLine →
      Fr s.heap s.heap.objs.size h₁ (fun x => binds.reverse.lookup x) →
      (∀ t h' tk', Grow s.heap h' → Q (R t) { s with heap := h', toks := tk' }) →
      wpAny (model PySem.Challenge.rw_st0031_01.prog w) ((Ar dp un fr gd).deeper (envOf name (fS i) s.heap.objs.size f cd)) (execs (fB i) (envOf name (fS i) s.heap.objs.size f cd))
        (fun fl s' => Q (match fl with | .ret v => v | _ => .none) s') (fun _ _ => False) { s with heap := h₁, toks := tk }) : Spec w (d + 1) (u + 3) f vs R := by
  intro mean mg mb dp un fr gd s Q E G hd hu hQ
  refine wpAny_call (call_plain_ret (name := name) (params := fA i) (body := fB i) (scope := fS i) (pm := pm) (cd := cd) (doc := .none) (o := o) (binds := binds) (by show dp < _; omega) (G.X _ _ ho) hdata G.T.nolimit (codeRec_of G.X hcd) hbind ?_ ?_ hco hgen hk ?_)
  · exact fun x hx => of_decide_eq_true (List.all_eq_true.mp hloc x hx)
  · intro h₁ F
    exact wpAny_mono (h mean mg mb dp un fr gd s h₁ _ Q G hd hu F hQ) (fun fl s' q => q) fun _ _ q => q
  · intro x hx
    have := List.all_eq_true.mp hcell x hx
    simpa using this
noncomputable def GSpec (w : World) (d u : Nat) (f : Addr) (vs : List Value) (Ok : Heap → Heap → Value → Prop) : Prop :=
  ∀ (mean : ExcName → Option Value) (mg mb : Str → Option Value) (dp un : Nat) (fr : Option (List Env)) (gd : Option (List Code)) (s : Shared) (Q : Value → Shared → Prop) (E : Value → Shared → Prop), Gd w mean mg mb s.heap →
    dp + d < recursionLimit → un + u < cLine → (∀ v h' tk', Grow s.heap h' → Ok s.heap h' v → Q v { s with heap := h', toks := tk' }) → wpAny (model PySem.Challenge.rw_st0031_01.prog w) (Ar dp un fr gd) (PySem.call (.ref f) vs) Q E s

theorem gspec_of {w : World} {d u i : Nat} {f : Addr} {vs : List Value} {Ok : Heap → Heap → Value → Prop} {name : Str} {pm cd : Value} {o : Obj} {binds : List (Str × Value)}
    (ho : (K w.params).lookup f = some o) (hdata : o.data = .func (docDef name (fA i) (fB i) (fS i) pm cd .none)) (hcd : codeIn (K w.params) cd name = true)
    (hbind : bindArgs (docDef name (fA i) (fB i) (fS i) pm cd .none) ⟨vs, []⟩ = pure binds) (hloc : (binds.all fun x => decide ((fS i).names.lookup x.1 = some .local)) = true)
    (hco : (fS i).isCoroutine = false) (hgen : (fS i).isGenerator = false) (hk : (fS i).kind = .function) (hcell : (fS i).names.all (fun x => x.2 != .cell) = true)
    (h : ∀ (mean : ExcName → Option Value) (mg mb : Str → Option Value) (dp un : Nat) (fr : Option (List Env)) (gd : Option (List Code)) (s : Shared) (h₁ : Heap) (tk : Nat) (Q : Value → Shared → Prop), Gd w mean mg mb s.heap → dp + (d + 1) < recursionLimit → un + (u + 3) < cLine →
      Fr s.heap s.heap.objs.size h₁ (fun x => binds.reverse.lookup x) →
      (∀ v h' tk', Grow s.heap h' → Ok s.heap h' v → Q v { s with heap := h', toks := tk' }) →
      wpAny (model PySem.Challenge.rw_st0031_01.prog w) ((Ar dp un fr gd).deeper (envOf name (fS i) s.heap.objs.size f cd)) (execs (fB i) (envOf name (fS i) s.heap.objs.size f cd))
        (fun fl s' => Q (match fl with | .ret v => v | _ => .none) s') (fun _ _ => False) { s with heap := h₁, toks := tk }) : GSpec w (d + 1) (u + 3) f vs Ok := by
  intro mean mg mb dp un fr gd s Q E G hd hu hQ
  refine wpAny_call (call_plain_ret (name := name) (params := fA i) (body := fB i) (scope := fS i) (pm := pm) (cd := cd) (doc := .none) (o := o) (binds := binds) (by show dp < _; omega) (G.X _ _ ho) hdata G.T.nolimit (codeRec_of G.X hcd) hbind ?_ ?_ hco hgen hk ?_)
  · exact fun x hx => of_decide_eq_true (List.all_eq_true.mp hloc x hx)
  · intro h₁ F
    exact wpAny_mono (h mean mg mb dp un fr gd s h₁ _ Q G hd hu F hQ) (fun fl s' q => q) fun _ _ q => q
  · intro x hx
    have := List.all_eq_true.mp hcell x hx
    simpa using this
noncomputable def Pair (x y : Str) (h h' : Heap) (v : Value) : Prop := ∃ a t u, v = .ref a ∧ h.get? a = none ∧ IsTup h' a #[.str x t, .str y u]
end Mine
set_option Elab.async false
set_option maxRecDepth 100000
namespace Mine
open PySem PySem.W PyProof.Rows PySem.Calls PySem.Spec
set_option maxHeartbeats 4000000
noncomputable def b1L : List Int := [65024, 65025, 65026, 65027, 65028, 65029, 6150, 65030, 65031, 65032, 65033, 6155, 6156, 6157, 8203, 8204, 8205, 65034, 65035, 65036, 65037, 65038, 65039, 173, 847, 8288, 65279]
noncomputable def b1b (c : Int) : Bool := b1L.contains c
theorem look_o98 (P : Params) : (K P).lookup 98 = some (o98 P) := by kernel_rfl
noncomputable def elB (e : Int × Value) : Bool := match e.2 with | .int k _ => decide (k = e.1) && decide (e.1 = hashInt k) | _ => false
theorem elB_spec {e : Int × Value} (h : elB e = true) : ∃ t, e.2 = .int e.1 t ∧ e.1 = hashInt e.1 := by
  obtain ⟨a, v⟩ := e
  unfold elB at h
  cases v with
  | int k t =>
    dsimp only at h
    obtain ⟨h1, h2⟩ := Bool.and_eq_true_iff.mp h
    have h1 := of_decide_eq_true h1
    subst h1
    exact ⟨t, rfl, of_decide_eq_true h2⟩
  | _ => cases h
noncomputable def b1E : List (Int × Value) := [(65024, .int 65024 413), (65025, .int 65025 414), (65026, .int 65026 415), (65027, .int 65027 416), (65028, .int 65028 417), (65029, .int 65029 418), (6150, .int 6150 399), (65030, .int 65030 419), (65031, .int 65031 420), (65032, .int 65032 421), (65033, .int 65033 422), (6155, .int 6155 400), (6156, .int 6156 401), (6157, .int 6157 402), (8203, .int 8203 403), (8204, .int 8204 404), (8205, .int 8205 405), (65034, .int 65034 423), (65035, .int 65035 424), (65036, .int 65036 425), (65037, .int 65037 426), (65038, .int 65038 427), (65039, .int 65039 428), (173, .int 173 397), (847, .int 847 398), (8288, .int 8288 406), (65279, .int 65279 407)]
theorem b1E_all : b1E.all elB = true := by decide +kernel
theorem b1E_map : b1E.map (·.1) = b1L := by decide +kernel
theorem set_b1 {w : World} {h : Heap} (X : (K w.params).In h) : h.SetOf (intKind PySem.Challenge.rw_st0031_01.prog w) 98 b1b 27 := by
  have hE := fun e he => elB_spec (List.all_eq_true.mp b1E_all e he)
  refine ⟨o98 w.params, _, _, _, X _ _ (look_o98 _), ⟨rfl, rfl, rfl⟩, rfl, ?_, ?_, by decide, by rfl, by rfl⟩
  · intro e he
    obtain ⟨t, e1, e2⟩ := hE e he
    refine ⟨⟨e.1, ?_, e2⟩, by rw [e1]; rfl⟩
    show Value.isInt e.1 e.2 = true
    rw [e1]; simp [Value.isInt]
  · intro k
    show b1L.contains k = true ↔ _
    rw [List.contains_iff_mem, ← b1E_map, List.mem_map]
    constructor
    · rintro ⟨e, he, rfl⟩
      obtain ⟨t, e1, e2⟩ := hE e he
      refine ⟨e, he, ?_⟩
      show Value.isInt e.1 e.2 = true
      rw [e1]; simp [Value.isInt]
    · rintro ⟨e, he, hk⟩
      obtain ⟨t, e1, e2⟩ := hE e he
      refine ⟨e, he, ?_⟩
      have : Value.isInt k e.2 = true := hk
      rw [e1] at this
      simpa [Value.isInt] using this
theorem in_b1 {w : World} {A : Around} {E : Value → Shared → Prop} {s : Shared} {h₀ : Heap} {L : Addr} {m : Str → Option Value} {c : Int} {t : Tok} {Q : Value → Shared → Prop} (F : Fr h₀ L s.heap m) (X : (K w.params).In h₀)
    (h : Q (.bool (b1b c)) { s with toks := s.toks + 1 }) : wpAny (model PySem.Challenge.rw_st0031_01.prog w) A (compareOp .In (.int c t) (.ref 98)) Q E s :=
  wpAny_inSet_of (knd := intKind PySem.Challenge.rw_st0031_01.prog w) (intKind_is _ _ _ _) rfl (set_b1 (X.keeps F.keep)) h
local macro_rules | `(tactic| walk_at "compareOp In") => `(tactic| (k_here; (with_reducible show wpAny _ _ (compareOp CmpOp.In (Value.int _ _) (Value.ref 98)) _ _ _); refine in_b1 (by k_asm) (by k_asm) ?_))
theorem spec_in (w : World) (c : Nat) (t : Tok) : Spec w 5 8 108 [.str ⟨#[c]⟩ t] (fun _ => .bool (b1b c)) := by
  refine spec_of (d := 4) (u := 5) (i := 15) (name := "in_table_b1") (cd := .ref 107) (binds := [("code", .str ⟨#[c]⟩ t)]) (o := o108 w.params) (pm := .str (Str.ofString "cpy313.stringprep") 395) rfl rfl (by kernel_rfl) (by rfl) (by kernel_rfl) rfl rfl rfl (by kernel_rfl) ?_
  intro mean mg mb dp un fr gd s h₁ tk Q G hd hu F hQ
  have X := G.X
  revert X; k_fill; intro X
  have T := G.T
  have N : News s.heap s.heap.objs.size h₁ [] := News.nil
  conv =>
    enter [3, 1]
    whnf
  k_steps
  exact hQ 0 _ _ F.keep
end Mine
set_option Elab.async false
set_option maxRecDepth 100000
namespace Mine
open PySem PySem.W PyProof.Rows PySem.Calls PySem.Spec
set_option maxHeartbeats 4000000
noncomputable def b3s (c : Int) : Option Str := (b3Items.find? fun x => x.1 == c).map (·.2)
noncomputable def e3B (e : DictEntry) (x : Int × Str) : Bool := match e.key, e.val with | .int k _, .str v _ => decide (k = e.hash) && decide (e.hash = hashInt e.hash) && decide (e.hash = x.1) && decide (v = x.2) | _, _ => false
noncomputable def all2 : List DictEntry → List (Int × Str) → Bool
  | [], [] => true
  | e :: r, x :: y => e3B e x && all2 r y
  | _, _ => false
theorem b3_all2 : all2 b3All b3Items = true := by kernel_rfl
theorem e3B_spec {e : DictEntry} {x : Int × Str} (h : e3B e x = true) : ∃ t u, e = ⟨x.1, .int x.1 t, .str x.2 u⟩ ∧ x.1 = hashInt x.1 := by
  obtain ⟨hs, k, v⟩ := e
  obtain ⟨a, b⟩ := x
  unfold e3B at h
  cases k with
  | int k t =>
    cases v with
    | str v u =>
      dsimp only at h
      simp only [Bool.and_eq_true, decide_eq_true_eq] at h
      obtain ⟨⟨⟨h1, h2⟩, h3⟩, h4⟩ := h
      subst h3 h1 h4
      exact ⟨t, u, rfl, h2⟩
    | _ => cases h
  | _ => cases h
theorem all2_keys {l : List DictEntry} : ∀ {m : List (Int × Str)}, all2 l m = true → ∀ e ∈ l, ∃ k, Value.isInt k e.key = true ∧ e.hash = hashInt k := by
  induction l with
  | nil => intro m h e' he; cases he
  | cons e r ih =>
    intro m h e' he
    cases m with
    | nil => cases h
    | cons x y =>
      obtain ⟨h1, h2⟩ := Bool.and_eq_true_iff.mp h
      rcases List.mem_cons.mp he with rfl | he
      · obtain ⟨t, u, rfl, hh⟩ := e3B_spec h1
        exact ⟨x.1, by simp [Value.isInt], hh⟩
      · exact ih h2 e' he
theorem all2_find {c : Int} : ∀ {l : List DictEntry} {m : List (Int × Str)}, all2 l m = true → ((l.find? fun e => Value.isInt c e.key).map (·.val) = none ∧ (m.find? fun x => x.1 == c).map (·.2) = none) ∨
    ∃ v u, (l.find? fun e => Value.isInt c e.key).map (·.val) = some (.str v u) ∧ (m.find? fun x => x.1 == c).map (·.2) = some v
  | [], [], _ => .inl ⟨rfl, rfl⟩
  | e :: r, x :: y, h => by
    obtain ⟨h1, h2⟩ := Bool.and_eq_true_iff.mp h
    obtain ⟨t, u, rfl, hh⟩ := e3B_spec h1
    by_cases hc : x.1 = c
    · right
      refine ⟨x.2, u, ?_, ?_⟩
      · rw [List.find?_cons_of_pos (by simp [Value.isInt, hc])]; rfl
      · rw [List.find?_cons_of_pos (by simp [hc])]; rfl
    · rw [List.find?_cons_of_neg (by simp [Value.isInt, hc]), List.find?_cons_of_neg (by simp [hc])]
      exact all2_find h2
theorem look_o109 (P : Params) : (K P).lookup 109 = some (o109 P) := by kernel_rfl
theorem map_b3 {w : World} {h : Heap} (X : (K w.params).In h) : h.MapOf (intKind PySem.Challenge.rw_st0031_01.prog w) 109 (fun c => (b3All.find? fun e => Value.isInt c e.key).map (·.val)) := by
  refine ⟨o109 w.params, b3All.toArray, 650, X _ _ (look_o109 _), ⟨rfl, rfl, rfl⟩, rfl, ?_, ?_⟩
  · intro e he
    exact all2_keys b3_all2 e (by simpa using he)
  · intro k
    show findBy Value.isInt _ k = _
    unfold findBy
    rw [List.find?_toArray]
variable {w : World} {A : Around} {E : Value → Shared → Prop} {s : Shared} {h₀ : Heap} {L : Addr} {m : Str → Option Value}
theorem meth_b3 {pl : Sem Bool} {Q : Value × List Value → Shared → Prop} (Fh : Fr h₀ L s.heap m) (X : (K w.params).In h₀) (h : Q (.builtin "dict.get", [.ref 109]) s) :
    wpAny (model PySem.Challenge.rw_st0031_01.prog w) A (getMethod (.ref 109) "get" pl) Q E s :=
  have hm := map_b3 (X.keeps Fh.keep)
  getMethod_builtin (hm.typeIs) F.plainAttrs_dict F.slot_dict_get F.type_dict_get hm.noDict h
theorem get_b3 {c : Int} {t : Tok} {Q : Value → Shared → Prop} (Fh : Fr h₀ L s.heap m) (X : (K w.params).In h₀)
    (h1 : ∀ v u, b3s c = some v → Q (.str v u) { s with toks := s.toks + 1 }) (h2 : b3s c = none → Q .none { s with toks := s.toks + 1 }) :
    wpAny (model PySem.Challenge.rw_st0031_01.prog w) A (call (.builtin "dict.get") [.ref 109, .int c t]) Q E s := by
  have hm := map_b3 (X.keeps Fh.keep)
  refine wpAny_call_entry F.slot_dict_get hm.typeIs F.entry_dict_get ?_ (F.args_dict_get_2 _ _)
  show wpAny _ _ (dictGet 109 (.int c t) >>= _) _ _ s
  refine wpAny_bind (wpAny_dictGet_of (k := c) (intKind_is _ _ _ _) hm ?_)
  rcases all2_find (c := c) b3_all2 with ⟨e1, e2⟩ | ⟨v, u, e1, e2⟩
  · rw [e1]
    show wpAny _ _ (Builtin.Dict.missed 109 (.int c t) >>= _) _ _ _
    exact wpAny_bind (wpAny_missed_other (by decide) (wpAny_pure ⟨.none, rfl, h2 e2⟩))
  · rw [e1]
    exact wpAny_pure ⟨.str v u, rfl, h1 v u e2⟩

local macro_rules | `(tactic| walk_at "getMethod ref") => `(tactic| (k_here; (with_reducible show wpAny _ _ (getMethod (Value.ref 109) _ _) _ _ _); refine meth_b3 (by k_asm) (by k_asm) ?_))
local macro_rules | `(tactic| walk_at "call builtin:dict.get") => `(tactic| (k_here; (with_reducible show wpAny _ _ (call _ [Value.ref 109, Value.int _ _]) _ _ _); refine get_b3 (by k_asm) (by k_asm) ?_ ?_ <;> intros))
local macro_rules | `(tactic| walk_at "call builtin:str.lower") => `(tactic| (k_here; (with_reducible show wpAny _ _ (call (Value.builtin "str.lower") [Value.str (Str.mk _) _]) _ _ _); refine SCL.lower (x := Str.mk _) (by exact Nat.le_of_ble_eq_true rfl) ?_; intro _))
noncomputable def m3 (c : Nat) : Str := match b3s c with | some v => v | none => Txt.lower ⟨#[c]⟩
theorem m3_some {c : Nat} {v : Str} (h : b3s c = some v) : m3 c = v := by unfold m3; rw [h]
theorem m3_none {c : Nat} (h : b3s c = none) : m3 c = Txt.lower ⟨#[c]⟩ := by unfold m3; rw [h]
theorem spec_map (w : World) (c : Nat) (t : Tok) : Spec w 5 8 154 [.str ⟨#[c]⟩ t] (fun t => .str (m3 c) t) := by
  refine spec_of (d := 4) (u := 5) (i := 17) (name := "map_table_b3") (cd := .ref 153) (binds := [("code", .str ⟨#[c]⟩ t)]) (o := o154 w.params) (pm := .str (Str.ofString "cpy313.stringprep") 395) rfl rfl (by kernel_rfl) (by rfl) (by kernel_rfl) rfl rfl rfl (by kernel_rfl) ?_
  intro mean mg mb dp un fr gd s h₁ tk Q G hd hu F hQ
  have X := G.X
  revert X; k_fill; intro X
  have T := G.T
  have N : News s.heap s.heap.objs.size h₁ [] := News.nil
  conv =>
    enter [3, 1]
    whnf
  k_steps
  all_goals dsimp only
  · rename (b3s _ = some _) => hv
    rename Fr _ _ _ _ => F'
    rw [m3_some hv] at hQ
    exact hQ _ _ _ F'.keep
  · rename (b3s _ = none) => hv
    rename Fr _ _ _ _ => F'
    rw [m3_none hv] at hQ
    exact hQ _ _ _ F'.keep
end Mine
set_option Elab.async false
set_option maxRecDepth 100000
namespace Mine
open PySem PySem.W PyProof.Rows PySem.Calls PySem.Spec
set_option maxHeartbeats 4000000
section
variable {w : World} {A : Around} {E : Value → Shared → Prop} {s : Shared} {h₀ : Heap} {L : Addr} {m : Str → Option Value} {news : List (Addr × Obj)} {prog : Program}
theorem ints_of_get : ∀ {vs : List Value} {ns : List Int}, vs.length = ns.length → (∀ j, j < ns.length → ∃ t, vs[j]? = some (.int (ns.getD j 0) t)) → IntsAre vs ns
  | [], [], _, _ => .nil
  | v :: vs, n :: ns, hl, h => by
    obtain ⟨t, e⟩ := h 0 (by simp)
    have e : v = .int n t := by simpa using e
    subst e
    exact .cons _ _ (ints_of_get (by simpa using hl) fun j hj => by have := h (j + 1) (by simpa using hj); simpa using this)
theorem my_lr {r : Addr} {a b c : Int} {t u v : Tok} {n : Nat} {Q : Value → Shared → Prop} (hh : A.handled = none) (Fh : Fr h₀ L s.heap m) (N : News h₀ L s.heap news)
    (hr : IsRange s.heap r a b c t u v) (hsmall : Builtin.Range.small a b c = true) (hn : Builtin.Range.rangeSize a b c = (n : Int)) (hlen : n ≤ 2 ^ 24)
    (hQ : ∀ l h' tk (ys : List Value), Fr h₀ L h' m → News h₀ L h' news → h'.IsList l ys.toArray → IntsAre ys (rangeInts a c n) → Q (.ref l) { s with heap := h', toks := tk }) :
    wpAny (model prog w) A (call (.type "list") [.ref r]) Q E s := by
  refine call_list_range hh hr hsmall hn hlen fun h' tk acc' c' hk hS' hacc => ?_
  refine hQ _ h' tk acc'.toList (Fh.keeps hk) (fun p hp => ⟨hk _ _ (N p hp).1, (N p hp).2⟩) ⟨_, hS', rfl, c', by simp⟩ ?_
  refine ints_of_get (by simp [hacc.1, rangeInts_length]) fun j hj => ?_
  rw [rangeInts_length] at hj
  have hj' : j < acc'.size := by rw [hacc.1]; exact hj
  have e := Array.getElem?_eq_getElem hj'
  obtain ⟨tk, ht⟩ := hacc.2 j _ e
  refine ⟨tk, ?_⟩
  rw [Array.getElem?_toList, e, ht]
  simp [rangeInts_get hj]
theorem item_ints {value slice : PySem.Expr} {l : Addr} {vs : List Value} {ns : List Int} {k : Int} {u : Tok} {Q : Value → Shared → Prop} (hl : s.heap.IsList l vs.toArray) (hi : IntsAre vs ns) (h0 : 0 ≤ k) (hk : k < ns.length) (hk2 : k < 2 ^ 63)
    (h : ∀ t, Q (.int (ns.getD k.toNat 0) t) s)
    (hs : subscripted slice false (.ref l) (.int k u) = operate [.ref l, .int k u] (getItem (.ref l) (.int k u)) := by with_unfolding_all rfl) :
    wpAny (model prog w) A (subscriptTail value slice (.ref l) (.int k u)) Q E s := by
  have hg : ∀ {vs : List Value} {ns : List Int}, IntsAre vs ns → ∀ j, j < ns.length → ∃ t, vs[j]? = some (.int (ns.getD j 0) t) := by
    intro vs ns hi
    induction hi with
    | nil => intro j hj; cases hj
    | cons _ _ _ ih =>
      intro j hj
      cases j with
      | zero => exact ⟨_, rfl⟩
      | succ j => obtain ⟨t, e⟩ := ih j (by simpa using hj); exact ⟨t, by simpa using e⟩
  obtain ⟨t, e⟩ := hg hi k.toNat (by omega)
  exact tail_any hl.typeIs slot_list_getitem.lookup (wpAny_getItem_list hl h0 hk2 (by simpa using e) (h t)) hs
end
noncomputable def nothL : List Int := [173, 847, 6150, 6155, 6156, 6157, 8203, 8204, 8205, 8288, 65279] ++ rangeInts 65024 1 ((65040 : Int) - 65024).toNat
theorem nothL_len : nothL.length = 27 := by decide
theorem nothL_rng : ∀ x ∈ nothL, 0 ≤ x ∧ x ≤ 1114111 := by decide
theorem getD_mem {l : List Int} {j : Nat} (h : j < l.length) : l.getD j 0 ∈ l := by
  rw [List.getD_eq_getElem?_getD, List.getElem?_eq_getElem h]; exact List.getElem_mem h
theorem fmod_rng (n k : Int) (hk : 0 < k) : 0 ≤ n.fmod k ∧ n.fmod k < k := by
  rw [Int.fmod_eq_emod_of_nonneg _ (by omega)]
  exact ⟨Int.emod_nonneg _ (by omega), Int.emod_lt_of_pos _ hk⟩
noncomputable def nothC (n : Int) : Nat := (nothL.getD (n.fmod 27).toNat 0).toNat
theorem spec_noth (w : World) (n : Int) (t : Tok) : Spec w 5 8 161 [.int n t] (fun t => .str ⟨#[nothC n]⟩ t) := by
  refine spec_of (d := 4) (u := 5) (i := 19) (name := "_law_nothing") (cd := .ref 160) (binds := [("n", .int n t)]) (o := o161 w.params) (pm := .str (Str.ofString "law_st0031_01") 2423) rfl rfl (by kernel_rfl) (by rfl) (by kernel_rfl) rfl rfl rfl (by kernel_rfl) ?_
  intro mean mg mb dp un fr gd s h₁ tk Q G hd hu F hQ
  have X := G.X
  revert X; k_fill; intro X
  have T := G.T
  have N : News s.heap s.heap.objs.size h₁ [] := News.nil
  conv =>
    enter [3, 1]
    whnf
  k_steps
  rename Fr _ _ _ _ => F2
  rename News _ _ _ _ => N2
  rename CarriedAll _ _ => hc
  rename Heap.IsList _ _ _ => hl2
  have hj := ints_of_carried hc
  refine' add_arrays_ints (ns := [173, 847, 6150, 6155, 6156, 6157, 8203, 8204, 8205, 8288, 65279]) ?a ?b ?c ?d ?e ?f ?_ ?g
  case a => exact F2
  case b => exact N2
  case c => exact News.isList N2 (List.Mem.head _)
  case d => exact hl2
  case e => repeat constructor
  case f => exact hj
  case g => decide
  intro h3 F3 N3 hi3
  k_steps
  rename Fr _ _ _ _ => F4
  have hr := nothL_rng _ (getD_mem (l := nothL) (j := (n.fmod 27).toNat) (by rw [nothL_len]; have := fmod_rng n 27 (by decide); omega))
  refine' chr_of_range (i := nothL.getD (n.fmod 27).toNat 0) ?a ?b ?_
  case a => exact hr.1
  case b => exact hr.2
  exact hQ _ _ _ F4.keep
end Mine
set_option Elab.async false
set_option maxRecDepth 100000
namespace Mine
open PySem PySem.W PyProof.Rows PySem.Calls PySem.Spec
set_option maxHeartbeats 4000000
noncomputable def starts : List Int := [65, 119808, 119860, 119912, 120016, 120172, 120224, 120276, 120328, 120380, 120432]
theorem starts_rng : ∀ x ∈ starts, 65 ≤ x ∧ x ≤ 120432 := by decide
noncomputable def letC (n : Int) : Nat := (starts.getD ((n.fdiv 26).fmod 11).toNat 0 + n.fmod 26).toNat
noncomputable def plL : List Int := List.map (fun a => a) (rangeInts 97 1 ((123 : Int) - 97).toNat) ++ [172, 174, 846, 848, 6149, 6151, 6154, 6158, 8202, 8206, 8287, 8289] ++ [65023, 65040, 65278, 65280]
theorem plL_len : plL.length = 42 := by decide
theorem plL_rng : ∀ x ∈ plL, 0 ≤ x ∧ x ≤ 1114111 := by decide
noncomputable def plC (n : Int) : Nat := (plL.getD (n.fmod 42).toNat 0).toNat
theorem spec_let (w : World) (n : Int) (t : Tok) : GSpec w 5 8 168 [.int n t] (Pair ⟨#[letC n]⟩ ⟨#[(97 + n.fmod 26).toNat]⟩) := by
  refine gspec_of (d := 4) (u := 5) (i := 20) (name := "_law_letter") (cd := .ref 167) (binds := [("n", .int n t)]) (o := o168 w.params) (pm := .str (Str.ofString "law_st0031_01") 2423) rfl rfl (by kernel_rfl) (by rfl) (by kernel_rfl) rfl rfl rfl (by kernel_rfl) ?_
  intro mean mg mb dp un fr gd s h₁ tk Q G hd hu F hQ
  have X := G.X
  revert X; k_fill; intro X
  have T := G.T
  have N : News s.heap s.heap.objs.size h₁ [] := News.nil
  conv =>
    enter [3, 1]
    whnf
  k_steps
  have hr := starts_rng _ (getD_mem (l := starts) (j := ((n.fdiv 26).fmod 11).toNat) (by show _ < 11; have := fmod_rng (n.fdiv 26) 11 (by decide); omega))
  have hm := fmod_rng n 26 (by decide)
  refine' chr_of_range (i := starts.getD ((n.fdiv 26).fmod 11).toNat 0 + n.fmod 26) ?a ?b ?_
  case a => omega
  case b => omega
  k_steps
  rename Fr _ _ _ _ => Fe
  rename News _ _ _ _ => Ne
  exact hQ _ _ _ Fe.keep ⟨_, _, _, rfl, News.fresh Ne (List.Mem.head _), ⟨_, News.get Ne (List.Mem.head _), rfl, _, rfl⟩⟩
theorem spec_plain (w : World) (n : Int) (t : Tok) : GSpec w 5 8 175 [.int n t] (Pair ⟨#[plC n]⟩ ⟨#[plC n]⟩) := by
  refine gspec_of (d := 4) (u := 5) (i := 21) (name := "_law_plain") (cd := .ref 174) (binds := [("n", .int n t)]) (o := o175 w.params) (pm := .str (Str.ofString "law_st0031_01") 2423) rfl rfl (by kernel_rfl) (by rfl) (by kernel_rfl) rfl rfl rfl (by kernel_rfl) ?_
  intro mean mg mb dp un fr gd s h₁ tk Q G hd hu F hQ
  have X := G.X
  revert X; k_fill; intro X
  have T := G.T
  have N : News s.heap s.heap.objs.size h₁ [] := News.nil
  conv =>
    enter [3, 1]
    whnf
  k_steps
  have hr := plL_rng _ (getD_mem (l := plL) (j := (n.fmod 42).toNat) (by rw [plL_len]; have := fmod_rng n 42 (by decide); omega))
  refine' chr_of_range (i := plL.getD (n.fmod 42).toNat 0) ?a ?b ?_
  case a => exact hr.1
  case b => exact hr.2
  k_steps
  refine' chr_of_range (i := plL.getD (n.fmod 42).toNat 0) ?a ?b ?_
  case a => exact hr.1
  case b => exact hr.2
  k_steps
  rename Fr _ _ _ _ => Fe
  rename News _ _ _ _ => Ne
  exact hQ _ _ _ Fe.keep ⟨_, _, _, rfl, News.fresh Ne (List.Mem.head _), ⟨_, News.get Ne (List.Mem.head _), rfl, _, rfl⟩⟩
end Mine
set_option Elab.async false
set_option maxRecDepth 100000
namespace Mine
open PySem PySem.W PyProof.Rows PySem.Calls PySem.Spec
set_option maxHeartbeats 4000000
section
variable {M : Model} {A : Around} {E : Value → Shared → Prop} {s : Shared} {h₀ : Heap} {L : Addr} {m : Str → Option Value} {news : List (Addr × Obj)} {prog : Program} {w : World} {env : Env}
noncomputable def cv : Const → Tok → Value
  | .int i, t => .int i t
  | .str x, t => .str x t
  | _, _ => .none
noncomputable def isIS : Const → Bool
  | .int _ | .str _ => true
  | _ => false
theorem eval_cv {c : Const} {k : Nat} {p : Pos} {Q : Value → Shared → Prop} (hc : isIS c = true) (h : Q (cv c s.toks) { s with toks := s.toks + 1 }) : wpAny M A (eval (.Constant c k p) env) Q E s := by
  cases c with
  | int i => exact fun _ _ _ => h
  | str x => exact fun _ _ _ => h
  | _ => cases hc
noncomputable def tupC : PySem.Expr → Option (Const × Const)
  | .Tuple [.Constant a _ _, .Constant b _ _] _ _ => if isIS a && isIS b then some (a, b) else none
  | _ => none
theorem tupC_inv {e : PySem.Expr} {c : Const × Const} (h : tupC e = some c) : ∃ k1 p1 k2 p2 k p, e = .Tuple [.Constant c.1 k1 p1, .Constant c.2 k2 p2] k p ∧ isIS c.1 = true ∧ isIS c.2 = true := by
  unfold tupC at h
  split at h
  · split at h
    · rename_i hh
      cases h
      obtain ⟨h1, h2⟩ := Bool.and_eq_true_iff.mp hh
      exact ⟨_, _, _, _, _, _, rfl, h1, h2⟩
    · cases h
  · cases h
noncomputable def tobj (c : Const × Const) (t u : Tok) : Obj := { cls := .type "tuple", data := .seq #[cv c.1 t, cv c.2 u] }
noncomputable def TupIs (h : Heap) (v : Value) (c : Const × Const) : Prop := ∃ a t u, v = .ref a ∧ h.get? a = some (tobj c t u)
noncomputable def NewIn (h₀ : Heap) (v : Value) : Prop := ∀ a, v = .ref a → h₀.get? a = none
theorem eval_tup {e : PySem.Expr} {c : Const × Const} {Q : Value → Shared → Prop} (hc : tupC e = some c) (h : ∀ v h' tk', Grow s.heap h' → TupIs h' v c → NewIn s.heap v → Q v { s with heap := h', toks := tk' }) : wpAny M A (eval e env) Q E s := by
  obtain ⟨k1, p1, k2, p2, k, p, rfl, h1, h2⟩ := tupC_inv hc
  refine Tuple_ ?_
  refine spliced_more ?_
  refine eval_cv h1 ?_
  refine spliced_more ?_
  refine eval_cv h2 ?_
  refine spliced_none ?_
  refine wpAny_newObj_type ?_ (by show (2 : Nat) ≤ sizeLine; decide)
  refine h _ _ _ (fun b o e => Heap.get?_push_of_some _ e) ⟨_, _, _, rfl, Heap.get?_push_size _ rfl⟩ ?_
  intro a ha
  cases ha
  cases e : s.heap.get? s.heap.objs.size with
  | none => rfl
  | some o => exact absurd (Heap.lt_size e) (Nat.lt_irrefl _)
inductive TupsAre (h₀ h : Heap) : List Value → List (Const × Const) → Prop
  | nil : TupsAre h₀ h [] []
  | cons {v c vs cs} : TupIs h v c → NewIn h₀ v → TupsAre h₀ h vs cs → TupsAre h₀ h (v :: vs) (c :: cs)
theorem TupIs.grow {h h' : Heap} {v : Value} {c : Const × Const} (x : TupIs h v c) (g : Grow h h') : TupIs h' v c := by
  obtain ⟨a, t, u, e, i⟩ := x
  exact ⟨a, t, u, e, g _ _ i⟩
theorem NewIn.less {h h' : Heap} {v : Value} (x : NewIn h' v) (g : Grow h h') : NewIn h v := fun a e => by
  cases q : h.get? a with
  | none => rfl
  | some o => have := x a e; rw [g _ _ q] at this; cases this
theorem TupsAre.grow {h₀ h h' : Heap} {vs : List Value} {cs : List (Const × Const)} (x : TupsAre h₀ h vs cs) (g : Grow h h') : TupsAre h₀ h' vs cs := by
  induction x with
  | nil => exact .nil
  | cons a b _ ih => exact .cons (a.grow g) b ih
theorem TupsAre.less {h₀ h₁ h : Heap} {vs : List Value} {cs : List (Const × Const)} (x : TupsAre h₁ h vs cs) (g : Grow h₀ h₁) : TupsAre h₀ h vs cs := by
  induction x with
  | nil => exact .nil
  | cons a b _ ih => exact .cons a (b.less g) ih
theorem TupsAre.append {h₀ h : Heap} {vs ws : List Value} {cs ds : List (Const × Const)} (x : TupsAre h₀ h vs cs) (y : TupsAre h₀ h ws ds) : TupsAre h₀ h (vs ++ ws) (cs ++ ds) := by
  induction x with
  | nil => exact y
  | cons a b _ ih => exact .cons a b ih
theorem TupsAre.at {h₀ h : Heap} {vs : List Value} {cs : List (Const × Const)} (x : TupsAre h₀ h vs cs) : ∀ {j : Nat} {c}, cs[j]? = some c → ∃ v, vs[j]? = some v ∧ TupIs h v c ∧ NewIn h₀ v := by
  induction x with
  | nil => intro j c hc; cases hc
  | cons a b _ ih =>
    intro j c hc
    cases j with
    | zero => cases hc; exact ⟨_, rfl, a, b⟩
    | succ j => obtain ⟨v, e, i⟩ := ih hc; exact ⟨v, e, i⟩
theorem TupsAre.len {h₀ h : Heap} {vs : List Value} {cs : List (Const × Const)} (x : TupsAre h₀ h vs cs) : vs.length = cs.length := by
  induction x with
  | nil => rfl
  | cons _ _ _ ih => simp [ih]
noncomputable def tupsC : List PySem.Expr → Option (List (Const × Const))
  | [] => some []
  | e :: r => match tupC e, tupsC r with | some c, some cs => some (c :: cs) | _, _ => none
theorem starEach_tup {e : PySem.Expr} {c : Const × Const} (h : tupC e = some c) (r : List PySem.Expr) : starEach (e :: r) env = (false, eval e env) :: starEach r env := by
  obtain ⟨k1, p1, k2, p2, k, p, rfl, _⟩ := tupC_inv h
  rfl
theorem spliced_tups {pos : Pos} : ∀ (es : List PySem.Expr) (cs : List (Const × Const)) (s : Shared) (Q : List Value → Shared → Prop), tupsC es = some cs →
    (∀ vs h' tk', Grow s.heap h' → TupsAre s.heap h' vs cs → Q vs { s with heap := h', toks := tk' }) → wpAny M A (spliced (backTo pos (starEach es env))) Q E s
  | [], cs, s, Q, hc, h => by
    cases hc
    exact spliced_none (h [] s.heap s.toks (Grow.refl _) .nil)
  | e :: r, cs, s, Q, hc, h => by
    unfold tupsC at hc
    cases h1 : tupC e with
    | none => rw [h1] at hc; cases hc
    | some c =>
      cases h2 : tupsC r with
      | none => rw [h1, h2] at hc; cases hc
      | some ds =>
        rw [h1, h2] at hc
        cases hc
        refine spliced_more (eval_tup h1 fun v h' tk' g ti ni => ?_) (starEach_tup h1 r)
        refine spliced_tups r ds _ _ h2 fun vs h'' tk'' g' ts => ?_
        exact h (v :: vs) h'' tk'' (g.trans g') (.cons (ti.grow g') ni (ts.less g))
inductive TupsIn (ts : List (Addr × Obj)) : List Value → List (Const × Const) → Prop
  | nil : TupsIn ts [] []
  | cons {a t u c vs cs} : (a, tobj c t u) ∈ ts → TupsIn ts vs cs → TupsIn ts (.ref a :: vs) (c :: cs)
theorem TupsIn.mono {ts us : List (Addr × Obj)} {vs : List Value} {cs : List (Const × Const)} (x : TupsIn ts vs cs) (h : ∀ p ∈ ts, p ∈ us) : TupsIn us vs cs := by
  induction x with
  | nil => exact .nil
  | cons a _ ih => exact .cons (h _ a) ih
theorem TupsIn.append {ts : List (Addr × Obj)} {vs ws : List Value} {cs ds : List (Const × Const)} (x : TupsIn ts vs cs) (y : TupsIn ts ws ds) : TupsIn ts (vs ++ ws) (cs ++ ds) := by
  induction x with
  | nil => exact y
  | cons a _ ih => exact .cons a ih
theorem TupsIn.at {ts : List (Addr × Obj)} {vs : List Value} {cs : List (Const × Const)} (x : TupsIn ts vs cs) : ∀ {j : Nat} {c}, cs[j]? = some c → ∃ a t u, vs[j]? = some (.ref a) ∧ (a, tobj c t u) ∈ ts := by
  induction x with
  | nil => intro j c hc; cases hc
  | cons a _ ih =>
    intro j c hc
    cases j with
    | zero => cases hc; exact ⟨_, _, _, rfl, a⟩
    | succ j => obtain ⟨v, t, u, e, i⟩ := ih hc; exact ⟨v, t, u, e, i⟩
theorem tups_news {h h' : Heap} {vs : List Value} {cs : List (Const × Const)} (x : TupsAre h h' vs cs) (Fh : Fr h₀ L h m) : ∃ ts, News h₀ L h' ts ∧ TupsIn ts vs cs := by
  induction x with
  | nil => exact ⟨[], News.nil, .nil⟩
  | cons a b _ ih =>
    obtain ⟨ts, n, i⟩ := ih
    obtain ⟨a, t, u, rfl, e⟩ := a
    have hn := b a rfl
    refine ⟨(a, tobj _ t u) :: ts, ?_, .cons (.head _) (i.mono fun p hp => .tail _ hp)⟩
    intro p hp
    rcases List.mem_cons.mp hp with rfl | hp
    · refine ⟨e, ?_, ?_⟩
      · intro e'
        have e' : a = L := e'
        obtain ⟨o, _, _, ho, _⟩ := Fh.ns
        rw [← e', hn] at ho; cases ho
      · show h₀.get? a = none
        cases q : h₀.get? a with
        | none => rfl
        | some o => rw [Fh.keep _ _ q] at hn; cases hn
    · exact n p hp
theorem list_tups {es : List PySem.Expr} {cs : List (Const × Const)} {pos : Pos} {Q : Value → Shared → Prop} (Fh : Fr h₀ L s.heap m) (N : News h₀ L s.heap news) (hc : tupsC es = some cs) (hl : cs.length ≤ 1000)
    (h : ∀ l vs ts h' tk', Fr h₀ L h' m → News h₀ L h' ((l, { cls := .type "list", data := .seq vs.toArray }) :: (ts ++ news)) → TupsIn ts vs cs → vs.length = cs.length → Q (.ref l) { s with heap := h', toks := tk' }) : wpAny M A (eval (.List es pos) env) Q E s := by
  refine List_ (spliced_tups es cs s _ hc fun vs h' tk' g ts => ?_)
  obtain ⟨us, n, i⟩ := tups_news ts Fh
  refine newList_N (news := us ++ news) (s := { s with heap := h', toks := tk' }) (g.fr Fh) ?_ (fun h'' F'' N'' => h _ vs us h'' tk' F'' N'' i ts.len) (by rw [ts.len]; exact Nat.le_trans hl (by decide))
  intro p hp
  rcases List.mem_append.mp hp with hp | hp
  · exact n p hp
  · exact (g.news N) p hp
theorem item_tups {value slice : PySem.Expr} {l : Addr} {vs : List Value} {ts : List (Addr × Obj)} {cs : List (Const × Const)} {k : Int} {u : Tok} {c : Const × Const} {Q : Value → Shared → Prop} (N : News h₀ L s.heap news) (hl : s.heap.IsList l vs.toArray) (hi : TupsIn ts vs cs) (hs' : ∀ p ∈ ts, p ∈ news) (h0 : 0 ≤ k) (hk2 : k < 2 ^ 63) (hc : cs[k.toNat]? = some c)
    (h : ∀ a t u, News h₀ L s.heap ((a, tobj c t u) :: news) → Q (.ref a) s)
    (hs : subscripted slice false (.ref l) (.int k u) = operate [.ref l, .int k u] (getItem (.ref l) (.int k u)) := by with_unfolding_all rfl) :
    wpAny (model prog w) A (subscriptTail value slice (.ref l) (.int k u)) Q E s := by
  obtain ⟨a, t, u', e, hm⟩ := hi.at hc
  refine tail_any hl.typeIs slot_list_getitem.lookup (wpAny_getItem_list hl h0 hk2 (by simpa using e) (h a t u' ?_)) hs
  intro p hp
  rcases List.mem_cons.mp hp with rfl | hp
  · exact N _ (hs' _ hm)
  · exact N p hp
end
end Mine
set_option Elab.async false
set_option maxRecDepth 100000
namespace Mine
open PySem PySem.W PyProof.Rows PySem.Calls PySem.Spec
set_option maxHeartbeats 4000000
noncomputable def wl : List (Int × Str) := [(223, "ss"), (64256, "ff"), (64257, "fi"), (64258, "fl"), (64261, "st"), (64262, "st"), (8470, "no"), (8360, "rs"), (8480, "sm"), (8482, "tm"), (13184, "pa"), (13188, "ka"), (64259, "ffi"), (64260, "ffl"), (8481, "tel"), (13169, "hpa"), (13201, "khz"), (13202, "mhz"), (13226, "kpa")]
noncomputable def wlj (n : Int) : Int × Str := wl.getD (n.fmod 19).toNat (0, ⟨#[]⟩)
theorem wlj_get (n : Int) : wl[(n.fmod 19).toNat]? = some (wlj n) := by
  have h : (n.fmod 19).toNat < wl.length := by show _ < 19; have := fmod_rng n 19 (by decide); omega
  unfold wlj
  rw [List.getD_eq_getElem?_getD, List.getElem?_eq_getElem h]; rfl
theorem wl_rng : ∀ x ∈ wl, 0 ≤ x.1 ∧ x.1 ≤ 1114111 := by decide
theorem wlj_rng (n : Int) : 0 ≤ (wlj n).1 ∧ (wlj n).1 ≤ 1114111 := wl_rng _ (List.mem_of_getElem? (wlj_get n))
noncomputable def wC (x : Int × Str) : Const × Const := (.int x.1, .str x.2)
local macro_rules | `(tactic| walk_at "eval List") => `(tactic| (k_here; (with_reducible show wpAny _ _ (eval (PySem.Expr.List (PySem.Expr.Tuple _ _ _ :: _) _) _) _ _ _); (rename Fr _ _ _ _ => F'); (rename News _ _ _ _ => N'); refine' list_tups F' N' (by with_unfolding_all rfl) ?z ?_; (case z => decide); intro l' vs' ts' h' tk' F2 N2 ht2 hv2))
local macro_rules | `(tactic| k_mem) => `(tactic| (refine' List.mem_append_right _ ?_; k_mem))
local macro_rules | `(tactic| walk_at "binaryOp Add") => `(tactic| (k_here; (with_reducible show wpAny _ _ (binaryOp _ (Value.ref _) (Value.ref _)) _ _ _); (rename Fr _ _ _ _ => F'); (rename News _ _ _ _ => N'); refine' add_arrays F' N' ?c ?d ?_ ?g; (case c => exact News.isList N' (by k_mem)); (case d => exact News.isList N' (by k_mem)); (case g => (simp only [List.size_toArray, List.length_append, *]; decide)); intro h3 F3 N3))
theorem spec_word (w : World) (n : Int) (t : Tok) : GSpec w 5 8 182 [.int n t] (Pair ⟨#[(wlj n).1.toNat]⟩ (wlj n).2) := by
  refine gspec_of (d := 4) (u := 5) (i := 22) (name := "_law_word") (cd := .ref 181) (binds := [("n", .int n t)]) (o := o182 w.params) (pm := .str (Str.ofString "law_st0031_01") 2423) rfl rfl (by kernel_rfl) (by rfl) (by kernel_rfl) rfl rfl rfl (by kernel_rfl) ?_
  intro mean mg mb dp un fr gd s h₁ tk Q G hd hu F hQ
  have X := G.X
  revert X; k_fill; intro X
  have T := G.T
  have N : News s.heap s.heap.objs.size h₁ [] := News.nil
  conv =>
    enter [3, 1]
    whnf
  k_steps
  rename TupsIn _ _ ((Const.int 223, _) :: _) => t1
  rename TupsIn _ _ ((Const.int 8360, _) :: _) => t2
  rename TupsIn _ _ ((Const.int 64260, _) :: _) => t3
  rename Fr _ _ _ _ => F4
  rename News _ _ _ _ => N4
  have hm := fmod_rng n 19 (by decide)
  refine' item_tups (cs := wl.map wC) (c := wC (wlj n)) N4 ?a ?b (fun _ h => h) ?c ?d ?e ?_
  case a => exact News.isList N4 (List.Mem.head _)
  case b => exact ((t1.mono (fun p hp => by simp [hp])).append (t2.mono (fun p hp => by simp [hp]))).append (t3.mono (fun p hp => by simp [hp]))
  case c => exact hm.1
  case d => exact Int.lt_trans hm.2 (by decide)
  case e => rw [List.getElem?_map, wlj_get]; rfl
  clear t1 t2 t3
  intro a5 t5 u5 N5
  have N6 : News _ _ _ ((a5, { cls := .type "tuple", data := .seq #[.int (wlj n).1 t5, .str (wlj n).2 u5] }) :: _) := N5
  clear N5 N4
  k_steps
  refine' chr_of_range (i := (wlj n).1) ?a ?b ?_
  case a => exact (wlj_rng n).1
  case b => exact (wlj_rng n).2
  k_steps
  rename Fr _ _ _ _ => Fe
  rename News _ _ _ _ => Ne
  exact hQ _ _ _ Fe.keep ⟨_, _, _, rfl, News.fresh Ne (List.Mem.head _), ⟨_, News.get Ne (List.Mem.head _), rfl, _, rfl⟩⟩
end Mine
set_option Elab.async false
set_option maxRecDepth 100000
namespace Mine
open PySem PySem.W PyProof.Rows PySem.Calls PySem.Spec
set_option maxHeartbeats 4000000
section
variable {w : World} {mean : ExcName → Option Value} {mg mb : Str → Option Value} {dp un d u : Nat} {fr : Option (List Env)} {gd : Option (List Code)} {env : Env} {s : Shared} {Q : Value → Shared → Prop} {E : Value → Shared → Prop} {h₀ : Heap} {L : Addr} {m : Str → Option Value} {news : List (Addr × Obj)} {f : Addr} {vs : List Value}
theorem use_spec {R : Tok → Value} (S : Spec w d u f vs R) (Fh : Fr h₀ L s.heap m) (N : News h₀ L s.heap news) (X : (K w.params).In h₀) (T : Top qv (looseW qv loose) mean mg mb h₀) (hd : dp + 1 + d < recursionLimit) (hu : un + 3 + u < cLine)
    (h : ∀ t h' tk', Fr h₀ L h' m → News h₀ L h' news → Q (R t) { s with heap := h', toks := tk' }) : wpAny (model PySem.Challenge.rw_st0031_01.prog w) ((Ar dp un fr gd).deeper env) (PySem.call (.ref f) vs) Q E s :=
  S mean mg mb (dp + 1) (un + 3) (fr.map (env :: ·)) gd s Q E ⟨X.keeps Fh.keep, T.keeps Fh.keep⟩ hd hu fun t h' tk' g => h t h' tk' (g.fr Fh) (g.news N)
theorem use_gspec {Ok : Heap → Heap → Value → Prop} (S : GSpec w d u f vs Ok) (Fh : Fr h₀ L s.heap m) (N : News h₀ L s.heap news) (X : (K w.params).In h₀) (T : Top qv (looseW qv loose) mean mg mb h₀) (hd : dp + 1 + d < recursionLimit) (hu : un + 3 + u < cLine)
    (h : ∀ v h' tk', Fr h₀ L h' m → News h₀ L h' news → Grow h₀ s.heap → Ok s.heap h' v → Q v { s with heap := h', toks := tk' }) : wpAny (model PySem.Challenge.rw_st0031_01.prog w) ((Ar dp un fr gd).deeper env) (PySem.call (.ref f) vs) Q E s :=
  S mean mg mb (dp + 1) (un + 3) (fr.map (env :: ·)) gd s Q E ⟨X.keeps Fh.keep, T.keeps Fh.keep⟩ hd hu fun v h' tk' g o => h v h' tk' (g.fr Fh) (g.news N) Fh.keep o
theorem Pair.less {x y : Str} {h₀ h h' : Heap} {v : Value} (p : Pair x y h h' v) (g : Grow h₀ h) : Pair x y h₀ h' v := by
  obtain ⟨a, t, u, e, n, i⟩ := p
  refine ⟨a, t, u, e, ?_, i⟩
  cases q : h₀.get? a with
  | none => rfl
  | some o => rw [g _ _ q] at n; cases n
end
local macro_rules | `(tactic| walk_at "eval List") => `(tactic| (k_here; (with_reducible show wpAny _ _ (eval (PySem.Expr.List (PySem.Expr.Tuple _ _ _ :: _) _) _) _ _ _); (rename Fr _ _ _ _ => F'); (rename News _ _ _ _ => N'); refine' list_tups F' N' (by with_unfolding_all rfl) ?z ?_; (case z => decide); intro l' vs' ts' h' tk' F2 N2 ht2 hv2))
local macro_rules | `(tactic| walk_at "call ref") => `(tactic| (k_here; (with_reducible show wpAny _ _ (call (Value.ref 161) [Value.int _ _]) _ _ _); (rename Fr _ _ _ _ => F'); (rename News _ _ _ _ => N'); refine' use_spec (spec_noth _ _ _) F' N' ?a ?b ?c ?d ?_; (case a => assumption); (case b => assumption); (case c => omega); (case d => omega); intro t7 h7 tk7 F7 N7))
local macro_rules | `(tactic| walk_at "call ref") => `(tactic| (k_here; (with_reducible show wpAny _ _ (call (Value.ref 168) [Value.int _ _]) _ _ _); (rename Fr _ _ _ _ => F'); (rename News _ _ _ _ => N'); refine' use_gspec (spec_let _ _ _) F' N' ?a ?b ?c ?d ?_; (case a => assumption); (case b => assumption); (case c => omega); (case d => omega); intro v7 h7 tk7 F7 N7 g7 p7))
local macro_rules | `(tactic| walk_at "call ref") => `(tactic| (k_here; (with_reducible show wpAny _ _ (call (Value.ref 175) [Value.int _ _]) _ _ _); (rename Fr _ _ _ _ => F'); (rename News _ _ _ _ => N'); refine' use_gspec (spec_plain _ _ _) F' N' ?a ?b ?c ?d ?_; (case a => assumption); (case b => assumption); (case c => omega); (case d => omega); intro v7 h7 tk7 F7 N7 g7 p7))
local macro_rules | `(tactic| walk_at "call ref") => `(tactic| (k_here; (with_reducible show wpAny _ _ (call (Value.ref 182) [Value.int _ _]) _ _ _); (rename Fr _ _ _ _ => F'); (rename News _ _ _ _ => N'); refine' use_gspec (spec_word _ _ _) F' N' ?a ?b ?c ?d ?_; (case a => assumption); (case b => assumption); (case c => omega); (case d => omega); intro v7 h7 tk7 F7 N7 g7 p7))
noncomputable def k3 : List Str := [".", "\x0d", "\n"]
noncomputable def k5 : List Str := ["&", "<", ">", "\"", "\t"]
noncomputable def chiC (r : Int) : Nat := (19968 + (r.fdiv 2).fmod 20902).toNat
noncomputable def sgnP (n : Int) : Str × Str :=
  if n.fmod 9 < 3 then (k3.getD (n.fmod 9).toNat ⟨#[]⟩, k3.getD (n.fmod 9).toNat ⟨#[]⟩)
  else if n.fmod 9 = 3 ∨ n.fmod 9 = 5 then (⟨#[nothC (n.fdiv 9)]⟩, (Str.ofString ""))
  else if n.fmod 9 = 4 then (k5.getD ((n.fdiv 9).fmod 5).toNat ⟨#[]⟩, k5.getD ((n.fdiv 9).fmod 5).toNat ⟨#[]⟩)
  else if n.fmod 9 = 6 then (⟨#[letC (n.fdiv 9)]⟩, ⟨#[(97 + (n.fdiv 9).fmod 26).toNat]⟩)
  else if n.fmod 9 = 7 then (⟨#[(wlj (n.fdiv 9)).1.toNat]⟩, (wlj (n.fdiv 9)).2)
  else if (n.fdiv 9).fmod 2 = 1 then (⟨#[plC ((n.fdiv 9).fdiv 2)]⟩, ⟨#[plC ((n.fdiv 9).fdiv 2)]⟩)
  else (⟨#[chiC (n.fdiv 9)]⟩, ⟨#[chiC (n.fdiv 9)]⟩)
noncomputable def sC (x : Str) : Const × Const := (.str x, .str x)
theorem getD_get {α : Type} {l : List α} {j : Nat} {d : α} (h : j < l.length) : l[j]? = some (l.getD j d) := by
  rw [List.getD_eq_getElem?_getD, List.getElem?_eq_getElem h]; rfl
theorem pair_at {x y : Str} {n : Int} {h h' : Heap} {v : Value} (p : Pair x y h h' v) (e : sgnP n = (x, y)) : Pair (sgnP n).1 (sgnP n).2 h h' v := by rw [e]; exact p
theorem sg1 {n : Int} (h : n.fmod 9 < 3) : sgnP n = (k3.getD (n.fmod 9).toNat ⟨#[]⟩, k3.getD (n.fmod 9).toNat ⟨#[]⟩) := by unfold sgnP; rw [if_pos h]
theorem sg2 {n : Int} (h : n.fmod 9 = 3 ∨ n.fmod 9 = 5) : sgnP n = (⟨#[nothC (n.fdiv 9)]⟩, (Str.ofString "")) := by unfold sgnP; rw [if_neg (by omega), if_pos h]
theorem sg4 {n : Int} (h : n.fmod 9 = 4) : sgnP n = (k5.getD ((n.fdiv 9).fmod 5).toNat ⟨#[]⟩, k5.getD ((n.fdiv 9).fmod 5).toNat ⟨#[]⟩) := by unfold sgnP; rw [if_neg (by omega), if_neg (by omega), if_pos h]
theorem sg6 {n : Int} (h : n.fmod 9 = 6) : sgnP n = (⟨#[letC (n.fdiv 9)]⟩, ⟨#[(97 + (n.fdiv 9).fmod 26).toNat]⟩) := by unfold sgnP; rw [if_neg (by omega), if_neg (by omega), if_neg (by omega), if_pos h]
theorem sg7 {n : Int} (h : n.fmod 9 = 7) : sgnP n = (⟨#[(wlj (n.fdiv 9)).1.toNat]⟩, (wlj (n.fdiv 9)).2) := by unfold sgnP; rw [if_neg (by omega), if_neg (by omega), if_neg (by omega), if_neg (by omega), if_pos h]
theorem sg8 {n : Int} (h3 : ¬ n.fmod 9 < 3) (h4 : n.fmod 9 ≠ 3) (h5 : n.fmod 9 ≠ 5) (h6 : n.fmod 9 ≠ 4) (h7 : n.fmod 9 ≠ 6) (h8 : n.fmod 9 ≠ 7) (h : (n.fdiv 9).fmod 2 = 1) : sgnP n = (⟨#[plC ((n.fdiv 9).fdiv 2)]⟩, ⟨#[plC ((n.fdiv 9).fdiv 2)]⟩) := by
  unfold sgnP; rw [if_neg h3, if_neg (by omega), if_neg h6, if_neg h7, if_neg h8, if_pos h]
theorem sg9 {n : Int} (h3 : ¬ n.fmod 9 < 3) (h4 : n.fmod 9 ≠ 3) (h5 : n.fmod 9 ≠ 5) (h6 : n.fmod 9 ≠ 4) (h7 : n.fmod 9 ≠ 6) (h8 : n.fmod 9 ≠ 7) (h : (n.fdiv 9).fmod 2 ≠ 1) : sgnP n = (⟨#[chiC (n.fdiv 9)]⟩, ⟨#[chiC (n.fdiv 9)]⟩) := by
  unfold sgnP; rw [if_neg h3, if_neg (by omega), if_neg h6, if_neg h7, if_neg h8, if_neg h]
theorem spec_sign (w : World) (n : Int) (t : Tok) : GSpec w 10 16 196 [.int n t] (Pair (sgnP n).1 (sgnP n).2) := by
  refine gspec_of (d := 9) (u := 13) (i := 24) (name := "_law_sign") (cd := .ref 195) (binds := [("n", .int n t)]) (o := o196 w.params) (pm := .str (Str.ofString "law_st0031_01") 2423) rfl rfl (by kernel_rfl) (by rfl) (by kernel_rfl) rfl rfl rfl (by kernel_rfl) ?_
  intro mean mg mb dp un fr gd s h₁ tk Q G hd hu F hQ
  have X := G.X
  revert X; k_fill; intro X
  have T := G.T
  have N : News s.heap s.heap.objs.size h₁ [] := News.nil
  conv =>
    enter [3, 1]
    whnf
  k_steps
  · rename TupsIn _ _ _ => t1
    rename Fr _ _ _ _ => F4
    rename News _ _ _ _ => N4
    have hm := fmod_rng n 9 (by decide)
    have hlt : (n.fmod 9).toNat < k3.length := by show _ < 3; omega
    refine' item_tups (cs := k3.map sC) (c := sC (k3.getD (n.fmod 9).toNat ⟨#[]⟩)) N4 ?a ?b (fun _ h => h) ?c ?d ?e ?_
    case a => exact News.isList N4 (List.Mem.head _)
    case b => exact t1.mono (fun p hp => by simp [hp])
    case c => exact hm.1
    case d => exact Int.lt_trans hm.2 (by decide)
    case e => rw [List.getElem?_map, getD_get hlt]; rfl
    intro a5 t5 u5 N5
    refine hQ _ _ _ F4.keep (pair_at (x := k3.getD (n.fmod 9).toNat ⟨#[]⟩) (y := k3.getD (n.fmod 9).toNat ⟨#[]⟩) ⟨_, t5, u5, rfl, News.fresh N5 (List.Mem.head _), ⟨_, News.get N5 (List.Mem.head _), rfl, _, rfl⟩⟩ (sg1 (by assumption)))
  · rename Fr _ _ _ _ => Fe
    rename News _ _ _ _ => Ne
    exact hQ _ _ _ Fe.keep (pair_at (x := ⟨#[nothC (n.fdiv 9)]⟩) (y := Str.ofString "") ⟨_, _, _, rfl, News.fresh Ne (List.Mem.head _), ⟨_, News.get Ne (List.Mem.head _), rfl, _, rfl⟩⟩ (sg2 (.inl (by assumption))))
  · rename Fr _ _ _ _ => Fe
    rename News _ _ _ _ => Ne
    exact hQ _ _ _ Fe.keep (pair_at (x := ⟨#[nothC (n.fdiv 9)]⟩) (y := Str.ofString "") ⟨_, _, _, rfl, News.fresh Ne (List.Mem.head _), ⟨_, News.get Ne (List.Mem.head _), rfl, _, rfl⟩⟩ (sg2 (.inr (by assumption))))
  · rename TupsIn _ _ _ => t1
    rename Fr _ _ _ _ => F4
    rename News _ _ _ _ => N4
    have hm := fmod_rng (n.fdiv 9) 5 (by decide)
    have hlt : ((n.fdiv 9).fmod 5).toNat < k5.length := by show _ < 5; omega
    refine' item_tups (cs := k5.map sC) (c := sC (k5.getD ((n.fdiv 9).fmod 5).toNat ⟨#[]⟩)) N4 ?a ?b (fun _ h => h) ?c ?d ?e ?_
    case a => exact News.isList N4 (List.Mem.head _)
    case b => exact t1.mono (fun p hp => by simp [hp])
    case c => exact hm.1
    case d => exact Int.lt_trans hm.2 (by decide)
    case e => rw [List.getElem?_map, getD_get hlt]; rfl
    intro a5 t5 u5 N5
    refine hQ _ _ _ F4.keep (pair_at (x := k5.getD ((n.fdiv 9).fmod 5).toNat ⟨#[]⟩) (y := k5.getD ((n.fdiv 9).fmod 5).toNat ⟨#[]⟩) ⟨_, t5, u5, rfl, News.fresh N5 (List.Mem.head _), ⟨_, News.get N5 (List.Mem.head _), rfl, _, rfl⟩⟩ (sg4 (by assumption)))
  · rename Pair _ _ _ _ _ => p7
    rename Grow _ _ => g7
    rename Fr _ _ _ _ => Fe
    exact hQ _ _ _ Fe.keep (pair_at (p7.less g7) (sg6 (by assumption)))
  · rename Pair _ _ _ _ _ => p7
    rename Grow _ _ => g7
    rename Fr _ _ _ _ => Fe
    exact hQ _ _ _ Fe.keep (pair_at (p7.less g7) (sg7 (by assumption)))
  · rename Pair _ _ _ _ _ => p7
    rename Grow _ _ => g7
    rename Fr _ _ _ _ => Fe
    exact hQ _ _ _ Fe.keep (pair_at (p7.less g7) (sg8 (by assumption) (by assumption) (by assumption) (by assumption) (by assumption) (by assumption) (by assumption)))
  · rename Fr _ _ _ _ => Fe
    rename News _ _ _ _ => Ne
    exact hQ _ _ _ Fe.keep (pair_at (x := ⟨#[chiC (n.fdiv 9)]⟩) (y := ⟨#[chiC (n.fdiv 9)]⟩) ⟨_, _, _, rfl, News.fresh Ne (List.Mem.head _), ⟨_, News.get Ne (List.Mem.head _), rfl, _, rfl⟩⟩ (sg9 (by assumption) (by assumption) (by assumption) (by assumption) (by assumption) (by assumption) (by assumption)))
end Mine
set_option Elab.async false
set_option maxRecDepth 100000
namespace Mine
open PySem PySem.W PyProof.Rows PySem.Calls PySem.Spec
set_option maxHeartbeats 4000000
noncomputable def tr (f : Nat → List Nat) (x : Str) : Str := ⟨(x.cps.toList.flatMap f).toArray⟩
noncomputable def rep (c : Nat) (z : List Nat) (d : Nat) : List Nat := if d = c then z else [d]
theorem flat_free (c : Nat) (z : List Nat) : ∀ l : List Nat, c ∉ l → l.flatMap (rep c z) = l
  | [], _ => rfl
  | k :: r, h => by
    have h1 : ¬ k = c := fun e => h (e ▸ List.mem_cons_self ..)
    rw [List.flatMap_cons, flat_free c z r (fun m => h (List.mem_cons_of_mem _ m))]
    unfold rep; rw [if_neg h1]; rfl
theorem rep_join (c : Nat) (z : Str) : ∀ parts : List Str, (∀ p ∈ parts, c ∉ p.cps.toList) → (Str.join ⟨#[c]⟩ parts).cps.toList.flatMap (rep c z.cps.toList) = (Str.join z parts).cps.toList
  | [], _ => rfl
  | [p], h => flat_free c _ _ (h p (List.mem_singleton.mpr rfl))
  | p :: q :: r, h => by
    have ih := rep_join c z (q :: r) fun a ha => h a (List.mem_cons_of_mem _ ha)
    show (p ++ ⟨#[c]⟩ ++ Str.join ⟨#[c]⟩ (q :: r)).cps.toList.flatMap _ = (p ++ z ++ Str.join z (q :: r)).cps.toList
    simp only [Str.cps_append, Array.toList_append, List.flatMap_append]
    rw [ih, flat_free c _ _ (h p (List.mem_cons_self ..))]
    simp [rep]
theorem replace_rep (x z : Str) (c : Nat) : Txt.replace x ⟨#[c]⟩ z = tr (rep c z.cps.toList) x := by
  have e : (Txt.replace x ⟨#[c]⟩ z).cps.toList = x.cps.toList.flatMap (rep c z.cps.toList) := by
    rw [StrLaws.replace_one, ← rep_join c z _ (StrLaws.split_free x c), StrLaws.join_split]
  unfold tr
  rw [← e]
theorem tr_free (c : Nat) (z : List Nat) (x : Str) (h : c ∉ x.cps.toList) : tr (rep c z) x = x := by
  unfold tr; rw [flat_free c z _ h]
theorem flat_len (c : Nat) (z : List Nat) : ∀ l : List Nat, (l.flatMap (rep c z)).length ≤ (z.length + 1) * l.length
  | [] => by simp
  | k :: r => by
    have := flat_len c z r
    rw [List.flatMap_cons, List.length_append, List.length_cons, Nat.mul_add, Nat.mul_one]
    have e : (rep c z k).length ≤ z.length + 1 := by
      unfold rep; split
      · exact Nat.le_succ _
      · exact Nat.succ_le_succ (Nat.zero_le _)
    omega
theorem tr_len (c : Nat) (z : List Nat) (x : Str) : (tr (rep c z) x).length ≤ (z.length + 1) * x.length := by
  have := flat_len c z x.cps.toList
  rw [Array.length_toList] at this
  show (tr (rep c z) x).cps.size ≤ _
  unfold tr
  rw [List.size_toArray]; exact this
section
variable {w : World} {A : Around} {E : Value → Shared → Prop} {s : Shared} {h₀ : Heap} {L a : Addr} {m : Str → Option Value} {news : List (Addr × Obj)} {prog : Program} {name : Str} {scope : Scope} {cd : Value}
theorem esc_if {c : Nat} {C Z : Str} {x : Str} {t : Tok} {k1 k2 k3 : Nat} {p1 p2 p3 p4 p5 p6 p7 p8 p9 p10 p11 : Pos} {Q : Flow → Shared → Prop} (hC : C = ⟨#[c]⟩) (hCZ : (C == Z) = false)
    (Fh : Fr h₀ L s.heap m) (N : News h₀ L s.heap news) (hm : m (Str.ofString "text") = some (.str x t)) (hb : x.length + (x.length + 1) * Z.length ≤ 16777216) {pl : Sem Bool}
    (he : eval (.Call (.Attribute (.Name (Str.ofString "text") p5) (Str.ofString "replace") p6) [.Constant (.str C) k2 p7, .Constant (.str Z) k3 p8] [] p9) (envOf name scope L a cd) = (do
      let ov ← eval (.Name (Str.ofString "text") p5) (envOf name scope L a cd)
      standAt p6.atName
      let (f, first) ← holding [ov] (getMethod ov (Str.ofString "replace") pl)
      callWith p9 f first (backTo p9 (starEach [.Constant (.str C) k2 p7, .Constant (.str Z) k3 p8] (envOf name scope L a cd))) []))
    (hk : scope.kind = .function) (hl : (envOf name scope L a cd).kindOf (Str.ofString "text") = some .local)
    (h : ∀ h' t' tk', Fr h₀ L h' (fun y => if y = Str.ofString "text" then some (.str (tr (rep c Z.cps.toList) x) t') else m y) → News h₀ L h' news → tk' ≠ 0 → Q .next { s with heap := h', toks := tk' }) :
    wpAny (model prog w) A (exec (.If (.Compare (.Constant (.str C) k1 p1) [.In] [.Name (Str.ofString "text") p2] p3)
      [.Assign [.Name (Str.ofString "text") p4] (.Call (.Attribute (.Name (Str.ofString "text") p5) (Str.ofString "replace") p6) [.Constant (.str C) k2 p7, .Constant (.str Z) k3 p8] [] p9) p10] [] p11) (envOf name scope L a cd)) Q E s := by
  refine wpAny_If ?_
  refine wpAny_isTrue_Compare1 ?_ (by rfl)
  refine eval_cv (c := .str C) rfl ?_
  refine ld (s := { s with toks := s.toks + 1 }) Fh hm ?_ hk hl
  subst hC
  refine PyProof.Rows.in_str ?_
  rw [StrLaws.found_one]
  refine wpAny_truthy_bool ?_
  by_cases hc : c ∈ x.cps.toList
  · rw [decide_eq_true hc, if_pos rfl]
    refine wpAny_execs_cons ?_
    refine wpAny_Assign_Name ?_ (by rfl)
    refine MethodCall_ ?_ he
    refine ld (s := { s with toks := s.toks + 1 }) Fh hm ?_ hk hl
    refine GM.replace ?_
    refine callWith_method1 ?_ (by rfl) (by rfl)
    refine spliced_more ?_
    refine eval_cv (c := .str ⟨#[c]⟩) rfl ?_
    refine spliced_more ?_
    refine eval_cv (c := .str Z) rfl ?_
    refine spliced_none ?_
    refine SC.replace (by show s.toks + 1 ≠ 0; omega) (by show s.toks + 1 + 1 ≠ 0; omega) (by show s.toks + 1 ≠ s.toks + 1 + 1; omega) hCZ hb ?_
    intro t' k'
    refine stN (s := { s with toks := k' }) Fh N ?_ hk hl
    intro h' F' N'
    refine wpAny_execs_nil ?_
    rw [replace_rep] at F'
    exact h h' t' (k' + 1) F' N' (Nat.succ_ne_zero _)
  · rw [decide_eq_false hc, if_neg Bool.false_ne_true]
    refine wpAny_execs_nil ?_
    refine h s.heap t (s.toks + 1) ?_ N (Nat.succ_ne_zero _)
    rw [tr_free c Z.cps.toList x hc]
    have e : (fun y => if y = Str.ofString "text" then some (Value.str x t) else m y) = m := by
      funext y
      by_cases hy : y = Str.ofString "text"
      · rw [if_pos hy, hy, hm]
      · rw [if_neg hy]
    rw [e]; exact Fh
end
end Mine
set_option Elab.async false
set_option maxRecDepth 100000
namespace Mine
open PySem PySem.W PyProof.Rows PySem.Calls PySem.Spec
set_option maxHeartbeats 4000000
noncomputable def es (l : List (Nat × List Nat)) (d : Nat) : List Nat := match l.lookup d with | some z => z | none => [d]
theorem tr_nil (x : Str) : tr (es []) x = x := by
  have e : ∀ l : List Nat, l.flatMap (es []) = l := by
    intro l; induction l with
    | nil => rfl
    | cons a r ih => rw [List.flatMap_cons, ih]; rfl
  unfold tr; rw [e]
theorem tr_tr (f g : Nat → List Nat) (x : Str) : tr g (tr f x) = tr (fun d => (f d).flatMap g) x := by
  unfold tr
  simp only [List.flatMap_assoc]
theorem es_step {l : List (Nat × List Nat)} {c : Nat} {z : List Nat} (h : (l.all fun p => p.1 != c && !p.2.contains c) = true) : (fun d => (es l d).flatMap (rep c z)) = es (l ++ [(c, z)]) := by
  funext d
  have hlk : ∀ l : List (Nat × List Nat), (l.all fun p => p.1 != c && !p.2.contains c) = true → (match l.lookup d with | some y => d ≠ c ∧ c ∉ y ∧ (l ++ [(c, z)]).lookup d = some y | none => (l ++ [(c, z)]).lookup d = if d = c then some z else none) := by
    intro l; induction l with
    | nil =>
      intro _
      by_cases e : d = c
      · simp [e, List.lookup]
      · simp [e, List.lookup, beq_false_of_ne e]
    | cons p r ih =>
      intro h
      obtain ⟨k, y⟩ := p
      rw [List.all_cons, Bool.and_eq_true, Bool.and_eq_true] at h
      by_cases e : d = k
      · subst e
        simp only [List.lookup, beq_self_eq_true, List.cons_append]
        exact ⟨by simpa using h.1.1, by simpa using h.1.2, trivial⟩
      · simp only [List.lookup, beq_false_of_ne e, List.cons_append]
        exact ih h.2
  have := hlk l h
  unfold es
  cases e : l.lookup d with
  | some y =>
    rw [e] at this
    simp only at this ⊢
    rw [this.2.2, flat_free c z y this.2.1]
  | none =>
    rw [e] at this
    simp only at this ⊢
    rw [this]
    by_cases q : d = c
    · simp [q, rep]
    · simp [q, rep]
theorem tr_le {f : Nat → List Nat} {b : Nat} (h : ∀ d, (f d).length ≤ b) (x : Str) : (tr f x).length ≤ b * x.length := by
  have e : ∀ l : List Nat, (l.flatMap f).length ≤ b * l.length := by
    intro l; induction l with
    | nil => simp
    | cons a r ih =>
      rw [List.flatMap_cons, List.length_append, List.length_cons, Nat.mul_add, Nat.mul_one]
      have := h a; omega
  show (tr f x).cps.size ≤ _
  unfold tr
  rw [List.size_toArray]
  have := e x.cps.toList
  rw [Array.length_toList] at this
  exact this
theorem es_len {l : List (Nat × List Nat)} (h : (l.all fun p => decide (p.2.length ≤ 6)) = true) (d : Nat) : (es l d).length ≤ 6 := by
  induction l with
  | nil => exact (by decide : 1 ≤ 6)
  | cons p r ih =>
    obtain ⟨k, y⟩ := p
    rw [List.all_cons, Bool.and_eq_true] at h
    unfold es
    by_cases e : d = k
    · subst e
      simp only [List.lookup, beq_self_eq_true]
      exact of_decide_eq_true h.1
    · simp only [List.lookup, beq_false_of_ne e]
      exact ih h.2
section
variable {w : World} {A : Around} {E : Value → Shared → Prop} {s : Shared} {h₀ : Heap} {L a : Addr} {m : Str → Option Value} {news : List (Addr × Obj)} {prog : Program} {name : Str} {scope : Scope} {cd : Value}
theorem esc_one {l : List (Nat × List Nat)} {c : Nat} {C Z : Str} {x y : Str} {t : Tok} {k1 k2 k3 : Nat} {p1 p2 p3 p4 p5 p6 p7 p8 p9 p10 p11 : Pos} {Q : Flow → Shared → Prop}
    (Fh : Fr h₀ L s.heap m) (N : News h₀ L s.heap news) (hm : m (Str.ofString "text") = some (.str y t)) (hy : y = tr (es l) x) (hC : C = ⟨#[c]⟩) (hb : x.length ≤ 100000)
    (hok : (l.all fun p => p.1 != c && !p.2.contains c) = true) (h6 : (l.all fun p => decide (p.2.length ≤ 6)) = true) (hZ : decide (Z.length ≤ 6) = true) (hCZ : (C == Z) = false) {pl : Sem Bool}
    (he : eval (.Call (.Attribute (.Name (Str.ofString "text") p5) (Str.ofString "replace") p6) [.Constant (.str C) k2 p7, .Constant (.str Z) k3 p8] [] p9) (envOf name scope L a cd) = (do
      let ov ← eval (.Name (Str.ofString "text") p5) (envOf name scope L a cd)
      standAt p6.atName
      let (f, first) ← holding [ov] (getMethod ov (Str.ofString "replace") pl)
      callWith p9 f first (backTo p9 (starEach [.Constant (.str C) k2 p7, .Constant (.str Z) k3 p8] (envOf name scope L a cd))) []))
    (hk : scope.kind = .function) (hl : (envOf name scope L a cd).kindOf (Str.ofString "text") = some .local)
    (h : ∀ h' t' tk', Fr h₀ L h' (fun y => if y = Str.ofString "text" then some (.str (tr (es (l ++ [(c, Z.cps.toList)])) x) t') else m y) → News h₀ L h' news → tk' ≠ 0 → Q .next { s with heap := h', toks := tk' }) :
    wpAny (model prog w) A (exec (.If (.Compare (.Constant (.str C) k1 p1) [.In] [.Name (Str.ofString "text") p2] p3)
      [.Assign [.Name (Str.ofString "text") p4] (.Call (.Attribute (.Name (Str.ofString "text") p5) (Str.ofString "replace") p6) [.Constant (.str C) k2 p7, .Constant (.str Z) k3 p8] [] p9) p10] [] p11) (envOf name scope L a cd)) Q E s := by
  subst hy
  have hlen := tr_le (es_len h6) x
  refine esc_if hC hCZ Fh N hm ?_ he hk hl ?_
  · have hz := of_decide_eq_true hZ
    have : ((tr (es l) x).length + 1) * Z.length ≤ ((tr (es l) x).length + 1) * 6 := Nat.mul_le_mul_left _ hz
    omega
  · intro h' t' tk' F' N' n'
    rw [tr_tr, es_step hok] at F'
    exact h h' t' tk' F' N' n'
end
theorem ch38 : Str.ofString "&" = ⟨#[38]⟩ := by decide +kernel
theorem ch60 : Str.ofString "<" = ⟨#[60]⟩ := by decide +kernel
theorem ch62 : Str.ofString ">" = ⟨#[62]⟩ := by decide +kernel
theorem ch34 : Str.ofString "\"" = ⟨#[34]⟩ := by decide +kernel
theorem ch13 : Str.ofString "\x0d" = ⟨#[13]⟩ := by decide +kernel
theorem ch10 : Str.ofString "\n" = ⟨#[10]⟩ := by decide +kernel
theorem ch9 : Str.ofString "\t" = ⟨#[9]⟩ := by decide +kernel
noncomputable def zS (x : String) : List Nat := (Str.ofString x).cps.toList
noncomputable def eL : Nat → List (Nat × List Nat)
  | 0 => [(38, zS "&amp;"), (60, zS "&lt;"), (62, zS "&gt;")]
  | 1 => [(38, zS "&amp;"), (60, zS "&lt;"), (62, zS "&gt;"), (34, zS "&quot;"), (13, zS "&#13;"), (10, zS "&#10;"), (9, zS "&#09;")]
  | 2 => [(38, zS "&amp;"), (62, zS "&gt;"), (34, zS "&quot;")]
  | 3 => [(38, zS "&amp;"), (60, zS "&lt;"), (62, zS "&gt;"), (13, zS "&#xD;")]
  | _ => [(38, zS "&amp;"), (60, zS "&lt;"), (34, zS "&quot;"), (9, zS "&#x9;"), (10, zS "&#xA;"), (13, zS "&#xD;")]
local macro_rules | `(tactic| walk_at "esc_tac") => `(tactic| ((refine wpAny_execs_cons ?_); (rename Fr _ _ _ _ => F'); (rename News _ _ _ _ => N'); (refine' esc_one F' N' ?hm ?hy ?hC ?hb ?hok ?h6 ?hZ ?hCZ ?he ?hk ?hl ?_); (case hm => with_unfolding_all rfl); (case hy => first | (with_reducible exact rfl) | exact (tr_nil _).symm); (case hC => first | exact ch38 | exact ch60 | exact ch62 | exact ch34 | exact ch13 | exact ch10 | exact ch9); (case hb => assumption); (case hok => decide +kernel); (case h6 => decide +kernel); (case hZ => decide +kernel); (case hCZ => decide +kernel); (case he => with_unfolding_all rfl); (case hk => rfl); (case hl => rfl); clear F' N'; intro h3 t3 tk3 F3 N3 n3; (try dsimp only)))
theorem spec_esc0 (w : World) (x : Str) (t : Tok) (hb : x.length ≤ 100000) : Spec w 1 3 45 [.str x t] (fun t => .str (tr (es (eL 0)) x) t) := by
  refine spec_of (d := 0) (u := 0) (i := 3) (name := "_escape_cdata") (cd := .ref 44) (binds := [("text", .str x t)]) (o := o45 w.params) (pm := .str (Str.ofString "cpy313.xml.etree.ElementTree") 282) rfl rfl (by kernel_rfl) (by rfl) (by kernel_rfl) rfl rfl rfl (by kernel_rfl) ?_
  intro mean mg mb dp un fr gd s h₁ tk Q G hd hu F hQ
  have X := G.X
  revert X; k_fill; intro X
  have T := G.T
  have N : News s.heap s.heap.objs.size h₁ [] := News.nil
  conv =>
    enter [3, 1]
    whnf
  refine wpAny_execs_cons ?_
  refine wpAny_Try_except ?_
  walk_at "esc_tac"
  walk_at "esc_tac"
  walk_at "esc_tac"
  k_steps
  dsimp only
  rename Fr _ _ _ _ => Fe
  exact hQ _ _ _ Fe.keep
theorem spec_esc1 (w : World) (x : Str) (t : Tok) (hb : x.length ≤ 100000) : Spec w 1 3 52 [.str x t] (fun t => .str (tr (es (eL 1)) x) t) := by
  refine spec_of (d := 0) (u := 0) (i := 4) (name := "_escape_attrib") (cd := .ref 51) (binds := [("text", .str x t)]) (o := o52 w.params) (pm := .str (Str.ofString "cpy313.xml.etree.ElementTree") 282) rfl rfl (by kernel_rfl) (by rfl) (by kernel_rfl) rfl rfl rfl (by kernel_rfl) ?_
  intro mean mg mb dp un fr gd s h₁ tk Q G hd hu F hQ
  have X := G.X
  revert X; k_fill; intro X
  have T := G.T
  have N : News s.heap s.heap.objs.size h₁ [] := News.nil
  conv =>
    enter [3, 1]
    whnf
  refine wpAny_execs_cons ?_
  refine wpAny_Try_except ?_
  walk_at "esc_tac"
  walk_at "esc_tac"
  walk_at "esc_tac"
  walk_at "esc_tac"
  walk_at "esc_tac"
  walk_at "esc_tac"
  walk_at "esc_tac"
  k_steps
  dsimp only
  rename Fr _ _ _ _ => Fe
  exact hQ _ _ _ Fe.keep
theorem spec_esc2 (w : World) (x : Str) (t : Tok) (hb : x.length ≤ 100000) : Spec w 1 3 59 [.str x t] (fun t => .str (tr (es (eL 2)) x) t) := by
  refine spec_of (d := 0) (u := 0) (i := 5) (name := "_escape_attrib_html") (cd := .ref 58) (binds := [("text", .str x t)]) (o := o59 w.params) (pm := .str (Str.ofString "cpy313.xml.etree.ElementTree") 282) rfl rfl (by kernel_rfl) (by rfl) (by kernel_rfl) rfl rfl rfl (by kernel_rfl) ?_
  intro mean mg mb dp un fr gd s h₁ tk Q G hd hu F hQ
  have X := G.X
  revert X; k_fill; intro X
  have T := G.T
  have N : News s.heap s.heap.objs.size h₁ [] := News.nil
  conv =>
    enter [3, 1]
    whnf
  refine wpAny_execs_cons ?_
  refine wpAny_Try_except ?_
  walk_at "esc_tac"
  walk_at "esc_tac"
  walk_at "esc_tac"
  k_steps
  dsimp only
  rename Fr _ _ _ _ => Fe
  exact hQ _ _ _ Fe.keep
theorem spec_esc3 (w : World) (x : Str) (t : Tok) (hb : x.length ≤ 100000) : Spec w 1 3 66 [.str x t] (fun t => .str (tr (es (eL 3)) x) t) := by
  refine spec_of (d := 0) (u := 0) (i := 6) (name := "_escape_cdata_c14n") (cd := .ref 65) (binds := [("text", .str x t)]) (o := o66 w.params) (pm := .str (Str.ofString "cpy313.xml.etree.ElementTree") 282) rfl rfl (by kernel_rfl) (by rfl) (by kernel_rfl) rfl rfl rfl (by kernel_rfl) ?_
  intro mean mg mb dp un fr gd s h₁ tk Q G hd hu F hQ
  have X := G.X
  revert X; k_fill; intro X
  have T := G.T
  have N : News s.heap s.heap.objs.size h₁ [] := News.nil
  conv =>
    enter [3, 1]
    whnf
  refine wpAny_execs_cons ?_
  refine wpAny_Try_except ?_
  walk_at "esc_tac"
  walk_at "esc_tac"
  walk_at "esc_tac"
  walk_at "esc_tac"
  k_steps
  dsimp only
  rename Fr _ _ _ _ => Fe
  exact hQ _ _ _ Fe.keep
theorem spec_esc4 (w : World) (x : Str) (t : Tok) (hb : x.length ≤ 100000) : Spec w 1 3 73 [.str x t] (fun t => .str (tr (es (eL 4)) x) t) := by
  refine spec_of (d := 0) (u := 0) (i := 7) (name := "_escape_attrib_c14n") (cd := .ref 72) (binds := [("text", .str x t)]) (o := o73 w.params) (pm := .str (Str.ofString "cpy313.xml.etree.ElementTree") 282) rfl rfl (by kernel_rfl) (by rfl) (by kernel_rfl) rfl rfl rfl (by kernel_rfl) ?_
  intro mean mg mb dp un fr gd s h₁ tk Q G hd hu F hQ
  have X := G.X
  revert X; k_fill; intro X
  have T := G.T
  have N : News s.heap s.heap.objs.size h₁ [] := News.nil
  conv =>
    enter [3, 1]
    whnf
  refine wpAny_execs_cons ?_
  refine wpAny_Try_except ?_
  walk_at "esc_tac"
  walk_at "esc_tac"
  walk_at "esc_tac"
  walk_at "esc_tac"
  walk_at "esc_tac"
  walk_at "esc_tac"
  k_steps
  dsimp only
  rename Fr _ _ _ _ => Fe
  exact hQ _ _ _ Fe.keep
noncomputable def write (k : Int) (x : Str) : Str := tr (es (eL (if k = 0 then 0 else if k = 1 then 1 else if k = 2 then 2 else if k = 3 then 3 else 4))) x
section
local macro_rules | `(tactic| walk_at "call ref") => `(tactic| (k_here; (with_reducible show wpAny _ _ (call (Value.ref 45) [Value.str _ _]) _ _ _); (rename Fr _ _ _ _ => F'); (rename News _ _ _ _ => N'); refine' use_spec (spec_esc0 _ _ _ ?hb) F' N' ?a ?b ?c ?d ?_; (case hb => assumption); (case a => assumption); (case b => assumption); (case c => omega); (case d => omega); intro t7 h7 tk7 F7 N7))
local macro_rules | `(tactic| walk_at "call ref") => `(tactic| (k_here; (with_reducible show wpAny _ _ (call (Value.ref 52) [Value.str _ _]) _ _ _); (rename Fr _ _ _ _ => F'); (rename News _ _ _ _ => N'); refine' use_spec (spec_esc1 _ _ _ ?hb) F' N' ?a ?b ?c ?d ?_; (case hb => assumption); (case a => assumption); (case b => assumption); (case c => omega); (case d => omega); intro t7 h7 tk7 F7 N7))
local macro_rules | `(tactic| walk_at "call ref") => `(tactic| (k_here; (with_reducible show wpAny _ _ (call (Value.ref 59) [Value.str _ _]) _ _ _); (rename Fr _ _ _ _ => F'); (rename News _ _ _ _ => N'); refine' use_spec (spec_esc2 _ _ _ ?hb) F' N' ?a ?b ?c ?d ?_; (case hb => assumption); (case a => assumption); (case b => assumption); (case c => omega); (case d => omega); intro t7 h7 tk7 F7 N7))
local macro_rules | `(tactic| walk_at "call ref") => `(tactic| (k_here; (with_reducible show wpAny _ _ (call (Value.ref 66) [Value.str _ _]) _ _ _); (rename Fr _ _ _ _ => F'); (rename News _ _ _ _ => N'); refine' use_spec (spec_esc3 _ _ _ ?hb) F' N' ?a ?b ?c ?d ?_; (case hb => assumption); (case a => assumption); (case b => assumption); (case c => omega); (case d => omega); intro t7 h7 tk7 F7 N7))
local macro_rules | `(tactic| walk_at "call ref") => `(tactic| (k_here; (with_reducible show wpAny _ _ (call (Value.ref 73) [Value.str _ _]) _ _ _); (rename Fr _ _ _ _ => F'); (rename News _ _ _ _ => N'); refine' use_spec (spec_esc4 _ _ _ ?hb) F' N' ?a ?b ?c ?d ?_; (case hb => assumption); (case a => assumption); (case b => assumption); (case c => omega); (case d => omega); intro t7 h7 tk7 F7 N7))
theorem spec_write (w : World) (x : Str) (t : Tok) (k : Int) (u : Tok) (hb : x.length ≤ 100000) : Spec w 2 6 203 [.str x t, .int k u] (fun t => .str (write k x) t) := by
  refine spec_of (d := 1) (u := 3) (i := 25) (name := "_law_write") (cd := .ref 202) (binds := [("text", .str x t), ("escape", .int k u)]) (o := o203 w.params) (pm := .str (Str.ofString "law_st0031_01") 2423) rfl rfl (by kernel_rfl) (by rfl) (by kernel_rfl) rfl rfl rfl (by kernel_rfl) ?_
  intro mean mg mb dp un fr gd s h₁ tk Q G hd hu F hQ
  have X := G.X
  revert X; k_fill; intro X
  have T := G.T
  have N : News s.heap s.heap.objs.size h₁ [] := News.nil
  conv =>
    enter [3, 1]
    whnf
  k_steps
  · rename Fr _ _ _ _ => Fe
    have e : write k x = tr (es (eL 0)) x := by rw [write, if_pos (by assumption)]
    rw [← e]; exact hQ _ _ _ Fe.keep
  · rename Fr _ _ _ _ => Fe
    have e : write k x = tr (es (eL 1)) x := by rw [write, if_neg (by assumption), if_pos (by assumption)]
    rw [← e]; exact hQ _ _ _ Fe.keep
  · rename Fr _ _ _ _ => Fe
    have e : write k x = tr (es (eL 2)) x := by rw [write, if_neg (by assumption), if_neg (by assumption), if_pos (by assumption)]
    rw [← e]; exact hQ _ _ _ Fe.keep
  · rename Fr _ _ _ _ => Fe
    have e : write k x = tr (es (eL 3)) x := by rw [write, if_neg (by assumption), if_neg (by assumption), if_neg (by assumption), if_pos (by assumption)]
    rw [← e]; exact hQ _ _ _ Fe.keep
  · rename Fr _ _ _ _ => Fe
    have e : write k x = tr (es (eL 4)) x := by rw [write, if_neg (by assumption), if_neg (by assumption), if_neg (by assumption), if_neg (by assumption)]
    rw [← e]; exact hQ _ _ _ Fe.keep
end
end Mine
set_option Elab.async false
set_option maxRecDepth 100000
namespace Mine
open PySem PySem.W PyProof.Rows PySem.Calls PySem.Spec
set_option maxHeartbeats 4000000
section
variable {prog : Program} {w : World} {A : Around} {E : Value → Shared → Prop} {s : Shared} {env : Env} {h₀ : Heap} {x : Str} {body : List Stmt} {Q : Flow → Shared → Prop}
noncomputable def TurnEnd (h₀ : Heap) (L : Addr) (own : List (Addr × Obj)) (J : (Str → Option Value) → Prop) (s₁ : Shared) (Q : Flow → Shared → Prop) (f : Flow) (s₂ : Shared) : Prop :=
  match f with
  | .ret v => Q (.ret v) s₂
  | .brk => Q .next s₂
  | _ => ∃ h' tk m' news, s₂ = { s₁ with heap := h', toks := tk } ∧ Fr h₀ L h' m' ∧ News h₀ L h' news ∧ (∀ p ∈ own, p ∈ news) ∧ J m'
theorem iter_text {y : Str} {t : Tok} {m₀ : Str → Option Value} (J : Nat → (Str → Option Value) → Prop)
    (hh : A.handled = none) (F : Fr h₀ env.locals s.heap m₀) (hj : J 0 m₀)
    (turn : ∀ i c u m₁ h tk own, y.cps[i]? = some c → J i m₁ → Fr h₀ env.locals h (fun z => if z = x then some (.str ⟨#[c]⟩ u) else m₁ z) → News h₀ env.locals h own →
      wpAny (model prog w) A (execs body env) (TurnEnd h₀ env.locals own (J (i + 1)) { s with heap := h, toks := tk } Q) E { s with heap := h, toks := tk })
    (done : ∀ m₁ h tk, J y.length m₁ → Fr h₀ env.locals h m₁ → Q .next { s with heap := h, toks := tk }) :
    wpAny (model prog w) A (pyIter (.str y t)) (fun it s₂ => LoopAtV prog w A h₀ env x body Q E it s₂) E s := by
  refine wpAny_pyIter_str fun o St hW hst => ?_
  have W := hW A hh
  refine loop_invN (news := []) (fun i m nx => nx = [] ∧ J i m) W ?_ ?_ ?_ ?_ hst (F.push _) (fun p hp => nomatch hp) ⟨rfl, hj⟩ ?_ ?_
  · intro hm
    exact absurd F.ns.lt ((List.mem_singleton.mp hm) ▸ Nat.lt_irrefl _)
  · intro b' hb
    rw [List.mem_singleton.mp hb]
    exact next_is_new F
  · intro p hp; cases hp
  · intro p hp; cases hp
  · rintro i v m₁ nx h tk own hi ⟨n, u, hn, rfl⟩ _ hoff ⟨rfl, hp'⟩ F₁ N₁
    refine wpAny_mono (turn i n u m₁ h tk own hn hp' F₁ N₁) (fun f s₂ p => ?_) fun _ _ e => e
    have fin : (∃ h' tk' m' news, s₂ = { s with heap := h', toks := tk' } ∧ Fr h₀ env.locals h' m' ∧ News h₀ env.locals h' news ∧ (∀ p ∈ own, p ∈ news) ∧ J (i + 1) m') → InvEndN h₀ env.locals (fun m nx => nx = [] ∧ J (i + 1) m) own (([] : List (Addr × Obj)).map (·.1)) { s with heap := h, toks := tk } s₂ := by
      rintro ⟨h', tk', m', news, e, F', N', hs, hJ⟩
      exact ⟨h', tk', m', news, [], e, F', N', (fun p hp => nomatch hp), hs, rfl, rfl, hJ⟩
    cases f with
    | ret v => exact p
    | brk => exact p
    | next => exact fin p
    | cont => exact fin p
  · rintro m₁ nx h tk ⟨rfl, hp'⟩ F₁ N₁
    exact done m₁ h tk hp' F₁
end
noncomputable def prC (c : Nat) : List Nat := if b1b c then [] else (m3 c).cps.toList
noncomputable def prep (x : Str) : Str := tr prC x
local macro_rules | `(tactic| walk_at "call ref") => `(tactic| (k_here; (with_reducible show wpAny _ _ (call (Value.ref 108) [Value.str _ _]) _ _ _); (rename Fr _ _ _ _ => F'); (rename News _ _ _ _ => N'); refine' use_spec (by assumption) F' N' ?a ?b ?c ?d ?_; (case a => assumption); (case b => assumption); (case c => omega); (case d => omega); intro t7 h7 tk7 F7 N7))
local macro_rules | `(tactic| walk_at "call ref") => `(tactic| (k_here; (with_reducible show wpAny _ _ (call (Value.ref 154) [Value.str _ _]) _ _ _); (rename Fr _ _ _ _ => F'); (rename News _ _ _ _ => N'); refine' use_spec (spec_map _ _ _) F' N' ?a ?b ?c ?d ?_; (case a => assumption); (case b => assumption); (case c => omega); (case d => omega); intro t7 h7 tk7 F7 N7))
theorem spec_prep (w : World) (x : Str) (t : Tok) (hb : x.length ≤ 100000) (h6 : ∀ c ∈ x.cps.toList, (m3 c).length ≤ 6) : Spec w 6 11 189 [.str x t] (fun t => .str (prep x) t) := by
  refine spec_of (d := 5) (u := 8) (i := 23) (name := "_law_prepared") (cd := .ref 188) (binds := [("text", .str x t)]) (o := o189 w.params) (pm := .str (Str.ofString "law_st0031_01") 2423) rfl rfl (by kernel_rfl) (by rfl) (by kernel_rfl) rfl rfl rfl (by kernel_rfl) ?_
  intro mean mg mb dp un fr gd s h₁ tk Q G hd hu F hQ
  have X := G.X
  revert X; k_fill; intro X
  have T := G.T
  have N : News s.heap s.heap.objs.size h₁ [] := News.nil
  conv =>
    enter [3, 1]
    whnf
  refine wpAny_execs_cons ?_
  refine wpAny_Assign_Name ?_ (by rfl)
  refine eval_cv (c := .str (Str.ofString "")) rfl ?_
  refine stN F N ?_
  intro h2 F2 N2
  refine wpAny_execs_cons ?_
  refine For_invV s.heap (by rfl) (by rfl) ?_ (by intro _; rfl)
  refine ld F2 (by rfl) ?_
  refine iter_text (fun i m => ∃ y t, m (Str.ofString "kept") = some (.str y t) ∧ y.cps.toList = (x.cps.toList.take i).flatMap prC) rfl F2 ⟨_, _, rfl, rfl⟩ ?turn ?done
  case turn =>
    intro i c u m₁ h3 tk3 own hc hJ F3 N3
    obtain ⟨y, t4, e4, hy⟩ := hJ
    have F4 : Fr s.heap s.heap.objs.size h3 (fun z => if z = Str.ofString "sign" then some (.str ⟨#[c]⟩ u) else if z = Str.ofString "kept" then some (.str y t4) else m₁ z) := by
      have e : (fun z => if z = Str.ofString "sign" then some (Value.str ⟨#[c]⟩ u) else if z = Str.ofString "kept" then some (.str y t4) else m₁ z) = (fun z => if z = Str.ofString "sign" then some (Value.str ⟨#[c]⟩ u) else m₁ z) := by
        funext z
        by_cases hz : z = Str.ofString "kept"
        · rw [if_pos hz, hz, e4]
        · rw [if_neg hz]
      rw [e]; exact F3
    clear F3 F2 F N N2
    have hlt : i < x.cps.toList.length := by
      have := (Array.getElem?_eq_some_iff.mp hc).1
      rw [Array.length_toList]; exact this
    have hc' : x.cps.toList[i]? = some c := by rw [Array.getElem?_toList]; exact hc
    have hmem : c ∈ x.cps.toList := List.mem_of_getElem? hc'
    have hs : (x.cps.toList.take (i + 1)).flatMap prC = y.cps.toList ++ prC c := by
      rw [List.take_add_one, hc', List.flatMap_append, ← hy]; simp
    have hy6 : y.length ≤ 600000 := by
      have h7 : ∀ l : List Nat, (∀ c ∈ l, (m3 c).length ≤ 6) → (l.flatMap prC).length ≤ 6 * l.length := by
        intro l; induction l with
        | nil => simp
        | cons a r ih =>
          intro h
          have h1 := ih fun c hc => h c (List.mem_cons_of_mem _ hc)
          have h2 := h a (List.mem_cons_self ..)
          have h3 : (prC a).length ≤ 6 := by
            unfold prC
            cases b1b a
            · show (m3 a).cps.toList.length ≤ 6
              rw [Array.length_toList]; exact h2
            · exact Nat.zero_le _
          rw [List.flatMap_cons, List.length_append, List.length_cons]; omega
      have h8 := h7 (x.cps.toList.take i) fun c hc => h6 c (List.mem_of_mem_take hc)
      rw [← hy, Array.length_toList, List.length_take, Array.length_toList] at h8
      have h9 : x.cps.size ≤ 100000 := hb
      show y.cps.size ≤ _
      omega
    have h6c := h6 c hmem
    have S := spec_in w c u
    cases hb1 : b1b c
    · simp only [hb1] at S
      k_steps
      rename Fr _ _ _ _ => Fe
      rename News _ _ _ _ => Ne
      have e : (y ++ m3 c).cps.toList = (x.cps.toList.take (i + 1)).flatMap prC := by
        rw [hs, Str.cps_append, Array.toList_append]; unfold prC; rw [hb1]; rfl
      exact ⟨_, _, _, _, rfl, Fe, Ne, fun _ h => h, _, _, rfl, e⟩
    · simp only [hb1] at S
      k_steps
      rename Fr _ _ _ _ => Fe
      rename News _ _ _ _ => Ne
      have e : y.cps.toList = (x.cps.toList.take (i + 1)).flatMap prC := by
        rw [hs]; unfold prC; rw [hb1]; simp
      exact ⟨_, _, _, _, rfl, Fe, Ne, fun _ h => h, _, _, rfl, e⟩
  case done =>
    intro m₁ h3 tk3 hJ F3
    obtain ⟨y, t4, e4, hy⟩ := hJ
    refine wpAny_execs_cons ?_
    have F4 : Fr s.heap s.heap.objs.size h3 (fun z => if z = Str.ofString "kept" then some (.str y t4) else m₁ z) := by
      have e : (fun z => if z = Str.ofString "kept" then some (.str y t4) else m₁ z) = m₁ := by
        funext z
        by_cases hz : z = Str.ofString "kept"
        · rw [if_pos hz, hz, e4]
        · rw [if_neg hz]
      rw [e]; exact F3
    clear F3 F2 F
    k_steps
    dsimp only
    have e : prep x = y := by
      have hl : x.length = x.cps.toList.length := by rw [Array.length_toList]; rfl
      rw [hl, List.take_length] at hy
      unfold prep tr
      rw [← hy]
    rename Fr _ _ _ _ => Fe
    rw [e] at hQ
    exact hQ _ _ _ Fe.keep
end Mine
set_option Elab.async false
set_option maxRecDepth 100000
namespace Mine
open PySem PySem.Sre PySem.Sre.M
noncomputable def code1 : Array Nat := #[14, 4, 0, 1, 1, 6, 1, 16, 46, 1]
noncomputable def code2 : Array Nat := #[14, 9, 4, 1, 2, 16, 10, 16, 13, 0, 7, 7, 16, 13, 16, 10, 15, 18, 5, 16, 10, 15, 13, 11, 16, 13, 5, 5, 0, 16, 10, 1, 15, 2, 0, 1]
noncomputable def ST (code text : Array Nat) (start pc pos handed : Nat) (om : Bool) (frames : List Sre.Frame) (wt : Nat) (ans : Option Bool) (seen : Seen) : Sre.M :=
  { code, text, lim := text.size, start, lastStart := text.size, pc, pos, handed, outermost := om, marks := #[], frames, weight := wt, answer := ans, seen }
noncomputable def Rch (b : Nat) (m : Sre.M) (P : Sre.M → Prop) : Prop := ∃ k, k ≤ b ∧ P (runFor k m)
theorem Rch.here {m : Sre.M} {P : Sre.M → Prop} (h : P m) : Rch 0 m P := ⟨0, Nat.le_refl _, h⟩
theorem Rch.step {b : Nat} {m m1 : Sre.M} {P : Sre.M → Prop} (ho : m.outcome.isSome = false) (e : m.step = m1) (h : Rch b m1 P) : Rch (b + 1) m P := by
  obtain ⟨k, hk, hp⟩ := h
  refine ⟨k + 1, Nat.succ_le_succ hk, ?_⟩
  unfold runFor; rw [if_neg (by rw [ho]; exact Bool.false_ne_true), e]; exact hp
theorem Rch.le {b b' : Nat} {m : Sre.M} {P : Sre.M → Prop} (h : Rch b m P) (hb : b ≤ b') : Rch b' m P := by
  obtain ⟨k, hk, hp⟩ := h; exact ⟨k, Nat.le_trans hk hb, hp⟩
section
variable {code text : Array Nat} {start pc pos handed : Nat} {om : Bool} {frames : List Sre.Frame} {wt : Nat} {seen : Seen}
theorem ops_at (k : Nat) (op : Op) (h : ops[k]? = some op) : ops[k]? = some op := h
theorem st_lit (hpc : pc < code.size) (h16 : code.getD pc 0 = 16) (hpos : pos < text.size) (hc : text.getD pos 0 = code.getD (pc + 1) 0) :
    (ST code text start pc pos handed om frames wt none seen).step = ST code text start (pc + 2) (pos + 1) handed om frames wt none (seen.add 16) := by
  have h1 : ops[16]? = some Op.LITERAL := rfl
  have h2 : ¬ text.size ≤ pos := by omega
  simp only [ST, M.step, Option.isSome_none, Bool.false_eq_true, if_false, hpc, if_true, M.exec, M.word, Nat.add_zero, h16, h1, ge_iff_le, h2, accepts, hc, beq_self_eq_true, itemWidth]
theorem st_lit_no (hpc : pc < code.size) (h16 : code.getD pc 0 = 16) (hc : pos < text.size → text.getD pos 0 ≠ code.getD (pc + 1) 0) :
    (ST code text start pc pos handed om frames wt none seen).step = ST code text start pc pos handed om frames wt (some false) (seen.add 16) := by
  have h1 : ops[16]? = some Op.LITERAL := rfl
  by_cases h2 : text.size ≤ pos
  · simp only [ST, M.step, Option.isSome_none, Bool.false_eq_true, if_false, hpc, if_true, M.exec, M.word, Nat.add_zero, h16, h1, ge_iff_le, h2, M.say]
  · have h3 := hc (by omega)
    simp only [ST, M.step, Option.isSome_none, Bool.false_eq_true, if_false, hpc, if_true, M.exec, M.word, Nat.add_zero, h16, h1, ge_iff_le, h2, M.say, accepts, beq_false_of_ne h3]
theorem st_jump (hpc : pc < code.size) (h15 : code.getD pc 0 = 15) :
    (ST code text start pc pos handed om frames wt none seen).step = ST code text start (pc + 1 + code.getD (pc + 1) 0) pos handed om frames wt none (seen.add 15) := by
  have h1 : ops[15]? = some Op.JUMP := rfl
  simp only [ST, M.step, Option.isSome_none, Bool.false_eq_true, if_false, hpc, if_true, M.exec, M.word, Nat.add_zero, h15, h1]
theorem st_succ (hpc : pc < code.size) (h1' : code.getD pc 0 = 1) :
    (ST code text start pc pos handed om frames wt none seen).step = ST code text start pc pos pos om frames wt (some true) (seen.add 1) := by
  have h1 : ops[1]? = some Op.SUCCESS := rfl
  simp only [ST, M.step, Option.isSome_none, Bool.false_eq_true, if_false, hpc, if_true, M.exec, M.word, Nat.add_zero, h1', h1, Bool.false_and, Bool.or_self, Bool.and_false, M.say]
noncomputable def kp : Sre.Kept := { lastmark := -1, lastindex := -1, whole := false, marks := #[] }
noncomputable def nb (pc pos : Nat) (om : Bool) : Sre.Frame := { wait := .nextBranch, pc, pos, outermost := om, kept := kp }
noncomputable def ns (pc pos : Nat) (om : Bool) : Sre.Frame := { wait := .nextStart, pc, pos, outermost := om }
noncomputable def ln (pc pos : Nat) (om : Bool) : Sre.Frame := { wait := .lookNot, pc, pos, outermost := om, kept := kp }
theorem st_branch (hpc : pc < code.size) (h7 : code.getD pc 0 = 7) (hn : code.getD (pc + 1) 0 ≠ 0) (hw : wt < 1000) :
    (ST code text start pc pos handed om frames wt none seen).step = ST code text start (pc + 1 + 1) pos pos om (nb (pc + 1) pos om :: frames) (wt + 1) none (seen.add 7) := by
  have h1 : ops[7]? = some Op.BRANCH := rfl
  have h2 : ¬ 16777216 < wt + 1 := by omega
  simp [ST, M.step, hpc, M.exec, M.word, h7, h1, M.alternative, hn, M.attempt, M.keep, M.frame, nb, kp, h2, -Array.getD_eq_getD_getElem?]
theorem st_assertnot (hpc : pc < code.size) (h5 : code.getD pc 0 = 5) (h0 : code.getD (pc + 2) 0 = 0) (hw : wt < 1000) :
    (ST code text start pc pos handed om frames wt none seen).step = ST code text start (pc + 3) pos pos false (ln pc pos om :: frames) (wt + 1) none (seen.add 5) := by
  have h1 : ops[5]? = some Op.ASSERT_NOT := rfl
  have h2 : ¬ 16777216 < wt + 1 := by omega
  simp [ST, M.step, hpc, M.exec, M.word, h5, h1, h0, M.attempt, M.keep, M.frame, ln, kp, h2, -Array.getD_eq_getD_getElem?]
theorem st_at (hpc : pc < code.size) (h6 : code.getD pc 0 = 6) (hw : code.getD (pc + 1) 0 = 1) :
    (ST code text start pc pos handed om frames wt none seen).step = if pos = 0 ∨ text.getD (pos - 1) 0 = 10 then ST code text start (pc + 2) pos handed om frames wt none ((seen.add 6).add 44) else ST code text start pc pos handed om frames wt (some false) ((seen.add 6).add 44) := by
  have h1 : ops[6]? = some Op.AT := rfl
  by_cases h : pos = 0 ∨ text.getD (pos - 1) 0 = 10
  · rw [if_pos h]
    have h' : (pos == 0 || text.getD (pos - 1) 0 == 10) = true := by simpa using h
    simp only [ST, M.step, Option.isSome_none, Bool.false_eq_true, if_false, hpc, if_true, M.exec, M.word, Nat.add_zero, h6, h1, hw, M.isAt, h']
  · rw [if_neg h]
    have h' : (pos == 0 || text.getD (pos - 1) 0 == 10) = false := by simpa using h
    simp only [ST, M.step, Option.isSome_none, Bool.false_eq_true, if_false, hpc, if_true, M.exec, M.word, Nat.add_zero, h6, h1, hw, M.isAt, h', M.say]
variable {pc' pos' : Nat} {om' : Bool}
theorem re_ns_yes : (ST code text start pc pos handed om (ns pc' pos' om' :: frames) wt (some true) seen).step = ST code text start pc' pos' handed om' frames (wt - 1) (some true) seen := by
  simp [ST, M.step, M.resume, ns, M.say]
theorem re_nb_yes : (ST code text start pc pos handed om (nb pc' pos' om' :: frames) wt (some true) seen).step = ST code text start pc' pos' handed om' frames (wt - 1) (some true) seen := by
  simp [ST, M.step, M.resume, nb, kp, M.say]
theorem re_ln_yes : (ST code text start pc pos handed om (ln pc' pos' om' :: frames) wt (some true) seen).step = ST code text start pc' pos' handed om' frames (wt - 1) (some false) seen := by
  simp [ST, M.step, M.resume, ln, kp, M.say]
theorem re_ln_no : (ST code text start pc pos handed om (ln pc' pos' om' :: frames) wt (some false) seen).step = ST code text start (pc' + 1 + code.getD (pc' + 1) 0) pos' handed om' frames (wt - 1) none seen := by
  simp [ST, M.step, M.resume, ln, kp, M.say, M.putBack, M.word, -Array.getD_eq_getD_getElem?]
theorem re_nb_no (hw : wt < 1000) : (ST code text start pc pos handed om (nb pc' pos' om' :: frames) wt (some false) seen).step =
    if code.getD (pc' + code.getD pc' 0) 0 = 0 then ST code text start pc' pos' handed om' frames (wt - 1) (some false) seen
    else ST code text start (pc' + code.getD pc' 0 + 1) pos' pos' om' (nb (pc' + code.getD pc' 0) pos' om' :: frames) (wt - 1 + 1) none seen := by
  have h2 : ¬ 16777216 < wt - 1 + 1 := by omega
  by_cases h : code.getD (pc' + code.getD pc' 0) 0 = 0
  · rw [if_pos h]
    simp [ST, M.step, M.resume, nb, kp, M.say, M.putBack, M.alternative, h, -Array.getD_eq_getD_getElem?]
  · rw [if_neg h]
    simp [ST, M.step, M.resume, nb, kp, M.say, M.putBack, M.alternative, h, M.attempt, M.frame, h2, -Array.getD_eq_getD_getElem?]
theorem re_ns_no : (ST code text start pc pos handed om (ns pc' pos' om' :: frames) wt (some false) seen).step =
    if pos' < text.size then (ST code text start pc' pos' handed om' frames (wt - 1) none seen).attemptFrom (pos' + 1) false
    else ST code text start pc' pos' handed om' frames (wt - 1) (some false) seen := by
  by_cases h : pos' < text.size
  · rw [if_pos h]
    simp [ST, M.step, M.resume, ns, M.say, h, -Array.getD_eq_getD_getElem?]
  · rw [if_neg h]
    simp [ST, M.step, M.resume, ns, M.say, h, -Array.getD_eq_getD_getElem?]
theorem re_end {b : Bool} : (ST code text start pc pos handed om [] wt (some b) seen).step = { ST code text start pc pos handed om [] wt (some b) seen with outcome := some (if b then .matched else .failed) } := by
  simp [ST, M.step]
theorem att_at {s : Nat} {first : Bool} (hw : wt < 1000) : (ST code text start pc pos handed om frames wt none seen).attemptAt s first = ST code text s pc s s first (ns pc s first :: frames) (wt + 1) none seen := by
  have h2 : ¬ 16777216 < wt + 1 := by omega
  simp [ST, M.attemptAt, M.attempt, ns, h2]
end
end Mine
set_option Elab.async false
set_option maxRecDepth 100000
set_option linter.unusedSimpArgs false
namespace Mine
open PySem PySem.Sre PySem.Sre.M
noncomputable def Fnd (r : Option (Nat × Nat)) (m : Sre.M) : Prop := match r with | some be => m.outcome = some .matched ∧ m.start = be.1 ∧ m.handed = be.2 | none => m.outcome = some .failed
noncomputable abbrev at1 (text : Array Nat) (s : Nat) : Prop := text.getD s 0 = 46 ∧ (s = 0 ∨ text.getD (s - 1) 0 = 10)
noncomputable def find1 (text : Array Nat) : Nat → Nat → Option (Nat × Nat)
  | 0, _ => none
  | n + 1, s => if at1 text s then some (s, s + 1) else find1 text n (s + 1)
noncomputable abbrev eol (text : Array Nat) (s : Nat) : Prop := text.getD s 0 = 10 ∨ text.getD s 0 = 13
noncomputable def end2 (text : Array Nat) (s : Nat) : Nat := if text.getD s 0 = 13 ∧ s + 1 < text.size ∧ text.getD (s + 1) 0 = 10 then s + 2 else s + 1
noncomputable def find2 (text : Array Nat) : Nat → Nat → Option (Nat × Nat)
  | 0, _ => none
  | n + 1, s => if eol text s then some (s, end2 text s) else find2 text n (s + 1)
theorem first1 (m : Sre.M) (h : m.code = code1) (s : Nat) (f : Bool) : m.attemptFrom s f = m.attemptAt s f := by
  have e : m.hasFirstSet = false := by unfold M.hasFirstSet; rw [h]; rfl
  unfold M.attemptFrom; rw [e]; rfl
section
variable {text : Array Nat}
theorem run1 : ∀ (n s : Nat) (om : Bool) (seen : Seen), text.size - s = n → s ≤ text.size → Rch (8 * n + 8) (ST code1 text s 5 s s om [ns 5 s om] 1 none seen) (Fnd (if s < text.size then find1 text n s else none)) := by
  intro n
  induction n with
  | zero =>
    intro s om seen hs hle
    rw [if_neg (by omega)]
    refine Rch.le (Rch.step (b := 7) rfl (st_at (by decide) rfl rfl) ?_) (by omega)
    by_cases h : s = 0 ∨ text.getD (s - 1) 0 = 10
    · rw [if_pos h]
      refine Rch.step (b := 6) rfl (st_lit_no (by decide) rfl (fun h => absurd h (by omega))) ?_
      refine Rch.step (b := 5) rfl re_ns_no ?_
      rw [if_neg (by omega)]
      refine Rch.le (Rch.step (b := 0) rfl re_end (Rch.here ?_)) (by omega)
      rfl
    · rw [if_neg h]
      refine Rch.step (b := 6) rfl re_ns_no ?_
      rw [if_neg (by omega)]
      refine Rch.le (Rch.step (b := 0) rfl re_end (Rch.here ?_)) (by omega)
      rfl
  | succ k ih =>
    intro s om seen hs hle
    rw [if_pos (by omega)]
    have next : ∀ start pos handed om seen, Rch (8 * k + 8) ((ST code1 text start 5 pos handed om [] (1 - 1) none seen).attemptFrom (s + 1) false) (Fnd (find1 text k (s + 1))) := by
      intro start pos handed om seen
      rw [first1 _ rfl, att_at (by omega)]
      have := ih (s + 1) false seen (by omega) (by omega)
      by_cases h : s + 1 < text.size
      · rw [if_pos h] at this; exact this
      · rw [if_neg h] at this
        have : k = 0 := by omega
        subst this
        assumption
    refine Rch.le (Rch.step (b := 8 * k + 15) rfl (st_at (by decide) rfl rfl) ?_) (by omega)
    by_cases h : s = 0 ∨ text.getD (s - 1) 0 = 10
    · rw [if_pos h]
      by_cases hc : text.getD s 0 = 46
      · refine Rch.step (b := 8 * k + 14) rfl (st_lit (by decide) rfl (by omega) hc) ?_
        refine Rch.step (b := 8 * k + 13) rfl (st_succ (by decide) rfl) ?_
        refine Rch.step (b := 8 * k + 12) rfl re_ns_yes ?_
        refine Rch.le (Rch.step (b := 0) rfl re_end (Rch.here ?_)) (by omega)
        unfold find1; rw [if_pos ⟨hc, h⟩]
        exact ⟨rfl, rfl, rfl⟩
      · refine Rch.step (b := 8 * k + 14) rfl (st_lit_no (by decide) rfl (fun _ => hc)) ?_
        refine Rch.step (b := 8 * k + 13) rfl re_ns_no ?_
        rw [if_pos (by omega)]
        unfold find1; rw [if_neg (fun x => hc x.1)]
        exact Rch.le (next _ _ _ _ _) (by omega)
    · rw [if_neg h]
      refine Rch.step (b := 8 * k + 14) rfl re_ns_no ?_
      rw [if_pos (by omega)]
      unfold find1; rw [if_neg (fun x => h x.2)]
      exact Rch.le (next _ _ _ _ _) (by omega)
theorem search1 (s : Nat) : Rch (8 * text.size + 8) (forSearch code1 text 0 s text.size false) (Fnd (if s < text.size then find1 text (text.size - s) s else none)) := by
  have e : forSearch code1 text 0 s text.size false = if (decide (s > text.size) || decide (text.size - s < 1)) = true then
      ({ code := code1, text, lim := text.size, start := s, pc := 5, pos := s, handed := s, marks := #[], mustAdvance := false, seen := ({} : Seen).add 14 } : Sre.M).say false
      else (ST code1 text s 5 s s true [] 0 none (({} : Seen).add 14)).attemptFrom s true := rfl
  by_cases h : s < text.size
  · rw [e, if_neg (by simp; omega), if_pos h, first1 _ rfl, att_at (by omega)]
    have := run1 (text := text) (text.size - s) s true (({} : Seen).add 14) rfl (by omega)
    rw [if_pos h] at this
    exact Rch.le this (by omega)
  · rw [e, if_pos (by simp; omega), if_neg h]
    refine Rch.le (Rch.step (b := 0) rfl rfl (Rch.here ?_)) (by omega)
    rfl
theorem tail2 {start pos handed : Nat} {om om' om'' : Bool} {p q wt s : Nat} {seen : Seen} : Rch 4 (ST code2 text start 35 pos handed om [nb p q om', ns 10 s om''] wt none seen) (Fnd (some (start, pos))) := by
  refine Rch.step (b := 3) rfl (st_succ (by decide) rfl) ?_
  refine Rch.step (b := 2) rfl re_nb_yes ?_
  refine Rch.step (b := 1) rfl re_ns_yes ?_
  refine Rch.step (b := 0) rfl re_end (Rch.here ?_)
  exact ⟨rfl, rfl, rfl⟩
theorem run2 {s : Nat} {om : Bool} {seen : Seen} (hlt : s < text.size) (h : eol text s) : Rch 20 (ST code2 text s 10 s s om [ns 10 s om] 1 none seen) (Fnd (some (s, end2 text s))) := by
  refine Rch.step (b := 19) rfl (st_branch (by decide) rfl (by decide) (by omega)) ?_
  rcases h with h | h
  · have e : end2 text s = s + 1 := by unfold end2; rw [if_neg (by omega)]
    rw [e]
    refine Rch.step (b := 18) rfl (st_lit_no (by decide) rfl (fun _ => ?_)) ?_
    · rw [h]; decide
    refine Rch.step (b := 17) rfl (re_nb_no (by omega)) ?_
    rw [if_neg (by decide)]
    refine Rch.step (b := 16) rfl (st_lit (by decide) rfl hlt h) ?_
    refine Rch.step (b := 15) rfl (st_jump (by decide) rfl) ?_
    exact Rch.le tail2 (by omega)
  · refine Rch.step (b := 18) rfl (st_lit (by decide) rfl hlt h) ?_
    by_cases h2 : s + 1 < text.size ∧ text.getD (s + 1) 0 = 10
    · have e : end2 text s = s + 2 := by unfold end2; rw [if_pos ⟨h, h2⟩]
      rw [e]
      refine Rch.step (b := 17) rfl (st_lit (by decide) rfl h2.1 h2.2) ?_
      refine Rch.step (b := 16) rfl (st_jump (by decide) rfl) ?_
      exact Rch.le tail2 (by omega)
    · have e : end2 text s = s + 1 := by unfold end2; rw [if_neg (fun x => h2 x.2)]
      rw [e]
      refine Rch.step (b := 17) rfl (st_lit_no (by decide) rfl (fun hp hc => h2 ⟨hp, hc⟩)) ?_
      refine Rch.step (b := 16) rfl (re_nb_no (by omega)) ?_
      rw [if_neg (by decide)]
      refine Rch.step (b := 15) rfl (st_lit_no (by decide) rfl (fun _ => ?_)) ?_
      · rw [h]; decide
      refine Rch.step (b := 14) rfl (re_nb_no (by omega)) ?_
      rw [if_neg (by decide)]
      refine Rch.step (b := 13) rfl (st_lit (by decide) rfl hlt h) ?_
      refine Rch.step (b := 12) rfl (st_assertnot (by decide) rfl rfl (by omega)) ?_
      refine Rch.step (b := 11) rfl (st_lit_no (by decide) rfl (fun hp hc => h2 ⟨hp, hc⟩)) ?_
      refine Rch.step (b := 10) rfl re_ln_no ?_
      refine Rch.step (b := 9) rfl (st_jump (by decide) rfl) ?_
      exact Rch.le tail2 (by omega)
theorem inset_lit {code : Array Nat} {c fuel i : Nat} {yes : Bool} {seen : Seen} (h : code.getD (i + 0) 0 = 16) :
    inSet code c (fuel + 1) i yes seen = if (c == code.getD (i + 1) 0) = true then .ok (yes, seen.add 16) else inSet code c fuel (i + 2) yes (seen.add 16) := by
  have h16 : ops[16]? = some Op.LITERAL := rfl
  rw [inSet]
  simp only [h, h16]
theorem inset_fail {code : Array Nat} {c fuel i : Nat} {yes : Bool} {seen : Seen} (h : code.getD (i + 0) 0 = 0) :
    inSet code c (fuel + 1) i yes seen = .ok (!yes, seen.add 0) := by
  have h0 : ops[0]? = some Op.FAILURE := rfl
  rw [inSet]
  simp only [h, h0]
theorem inset2 (c : Nat) (seen : Seen) : ∃ seen', inSet code2 c code2.size 5 true seen = .ok (decide (c = 10 ∨ c = 13), seen') := by
  have hsz : code2.size = 33 + 1 + 1 + 1 := rfl
  rw [hsz, inset_lit rfl, show code2.getD (5 + 1) 0 = 10 from rfl]
  by_cases h1 : c = 10
  · rw [if_pos (by simp [h1]), decide_eq_true (.inl h1)]; exact ⟨_, rfl⟩
  · rw [if_neg (by simp [h1]), inset_lit rfl, show code2.getD (5 + 2 + 1) 0 = 13 from rfl]
    by_cases h2 : c = 13
    · rw [if_pos (by simp [h2]), decide_eq_true (.inr h2)]; exact ⟨_, rfl⟩
    · rw [if_neg (by simp [h2]), inset_fail rfl, decide_eq_false (by omega)]; exact ⟨_, rfl⟩
theorem adm2 {start pc pos handed : Nat} {om : Bool} {frames : List Sre.Frame} {wt : Nat} {seen0 : Seen} : ∀ (n s : Nat) (seen : Seen), text.size + 1 - s = n + 1 → ∃ seen', admitted (ST code2 text start pc pos handed om frames wt none seen0) (n + 1) s seen = .ok ((if s < text.size then find2 text n s else none).map (·.1), seen') := by
  intro n
  induction n with
  | zero =>
    intro s seen hs
    refine ⟨seen, ?_⟩
    have h : ¬ s < text.size := by omega
    have h' : text.size ≤ s := by omega
    simp [admitted, ST, h, h']
  | succ k ih =>
    intro s seen hs
    have h : s < text.size := by omega
    have h' : ¬ s ≥ text.size := by omega
    obtain ⟨seen1, e1⟩ := inset2 (text.getD s 0) seen
    by_cases hc : text.getD s 0 = 10 ∨ text.getD s 0 = 13
    · refine ⟨seen1, ?_⟩
      rw [decide_eq_true hc] at e1
      have e : find2 text (k + 1) s = some (s, end2 text s) := by unfold find2; exact if_pos hc
      rw [if_pos h, e]
      unfold admitted
      show (if s ≥ text.size then _ else match inSet code2 (text.getD s 0) code2.size 5 true seen with | .ok (true, seen) => _ | .ok (false, seen) => _ | .error why => _) = _
      rw [if_neg h', e1]; rfl
    · obtain ⟨seen2, e2⟩ := ih (s + 1) seen1 (by omega)
      refine ⟨seen2, ?_⟩
      rw [decide_eq_false hc] at e1
      have e : find2 text (k + 1) s = find2 text k (s + 1) := by
        conv => lhs; unfold find2
        exact if_neg hc
      rw [if_pos h, e]
      unfold admitted
      show (if s ≥ text.size then _ else match inSet code2 (text.getD s 0) code2.size 5 true seen with | .ok (true, seen) => _ | .ok (false, seen) => _ | .error why => _) = _
      rw [if_neg h', e1]
      show admitted _ (k + 1) (s + 1) seen1 = _
      rw [e2]
      by_cases h3 : s + 1 < text.size
      · rw [if_pos h3]
      · have : k = 0 := by omega
        subst this
        rw [if_neg h3]; rfl
theorem find2_spec : ∀ (n s p e : Nat), find2 text n s = some (p, e) → s + n ≤ text.size → p < text.size ∧ eol text p ∧ e = end2 text p := by
  intro n
  induction n with
  | zero => intro s p e h; cases h
  | succ k ih =>
    intro s p e h hs
    unfold find2 at h
    by_cases hc : eol text s
    · rw [if_pos hc] at h
      cases h
      exact ⟨by omega, hc, rfl⟩
    · rw [if_neg hc] at h
      exact ih (s + 1) p e h (by omega)
theorem search2 (s : Nat) : Rch (8 * text.size + 20) (forSearch code2 text 0 s text.size false) (Fnd (if s < text.size then find2 text (text.size - s) s else none)) := by
  have e : forSearch code2 text 0 s text.size false = if (decide (s > text.size) || decide (text.size - s < 1)) = true then
      ({ code := code2, text, lim := text.size, start := s, pc := 10, pos := s, handed := s, marks := #[], mustAdvance := false, seen := ({} : Seen).add 14 } : Sre.M).say false
      else (ST code2 text s 10 s s true [] 0 none (({} : Seen).add 14)).attemptFrom s true := rfl
  by_cases h : s < text.size
  · rw [e, if_neg (by simp; omega), if_pos h]
    obtain ⟨seen1, e1⟩ := adm2 (text := text) (start := s) (pc := 10) (pos := s) (handed := s) (om := true) (frames := []) (wt := 0) (seen0 := ({} : Seen).add 14) (text.size - s) s (({} : Seen).add 14) (by omega)
    rw [if_pos h] at e1
    have hf : (ST code2 text s 10 s s true [] 0 none (({} : Seen).add 14)).hasFirstSet = true := rfl
    have hk : (ST code2 text s 10 s s true [] 0 none (({} : Seen).add 14)).lim + 1 - s = text.size - s + 1 := by show text.size + 1 - s = _; omega
    unfold M.attemptFrom
    rw [hf, hk]
    rw [show (ST code2 text s 10 s s true [] 0 none (({} : Seen).add 14)).seen = ({} : Seen).add 14 from rfl, e1]
    cases hq : find2 text (text.size - s) s with
    | none =>
      show Rch _ (M.say { ST code2 text s 10 s s true [] 0 none (({} : Seen).add 14) with seen := seen1 } false) _
      refine Rch.le (Rch.step (b := 0) rfl rfl (Rch.here ?_)) (by omega)
      rfl
    | some pe =>
      obtain ⟨p, e⟩ := pe
      obtain ⟨hp, he, rfl⟩ := find2_spec _ _ _ _ hq (by omega)
      show Rch _ (M.attemptAt (ST code2 text s 10 s s true [] 0 none seen1) p true) _
      rw [att_at (by omega)]
      exact Rch.le (run2 hp he) (by omega)
  · rw [e, if_pos (by simp; omega), if_neg h]
    refine Rch.le (Rch.step (b := 0) rfl rfl (Rch.here ?_)) (by omega)
    rfl
end
end Mine
set_option Elab.async false
set_option maxRecDepth 100000
set_option linter.unusedSimpArgs false
namespace Mine
open PySem PySem.W PyProof.Rows PySem.Calls PySem.Spec PySem.Builtin.Re
theorem runFor_done {m : Sre.M} (h : m.outcome.isSome = true) : ∀ k, Sre.M.runFor k m = m
  | 0 => rfl
  | k + 1 => by unfold Sre.M.runFor; rw [if_pos h]
theorem runFor_add : ∀ (a b : Nat) (m : Sre.M), Sre.M.runFor (a + b) m = Sre.M.runFor b (Sre.M.runFor a m)
  | 0, b, m => by rw [Nat.zero_add]; rfl
  | a + 1, b, m => by
    rw [Nat.add_right_comm]
    have e1 : ∀ k, Sre.M.runFor (k + 1) m = if m.outcome.isSome = true then m else Sre.M.runFor k m.step := fun k => rfl
    rw [e1, e1]
    by_cases h : m.outcome.isSome = true
    · rw [if_pos h, if_pos h]
      exact (runFor_done h b).symm
    · rw [if_neg h, if_neg h]
      exact runFor_add a b m.step
section
variable {Mo : Model} {A : Around} {E : Value → Shared → Prop} {s : Shared}
theorem wpAny_reDrive {P : Sre.M → Prop} {Q : Sre.M → Shared → Prop} (hQ : ∀ m', m'.outcome.isSome = true → P m' → Q m' s) : ∀ (n b : Nat) (m : Sre.M), Rch b m (fun m' => m'.outcome.isSome = true ∧ P m') → b < 4 * n → wpAny Mo A (reDrive n m) Q E s := by
  intro n
  induction n with
  | zero => intro b m _ h; omega
  | succ n ih =>
    intro b m h hb
    show wpAny Mo A (if (Sre.M.runFor 4 m).outcome.isSome then pure (Sre.M.runFor 4 m) else do rule "sre.turn"; reDrive n (Sre.M.runFor 4 m)) Q E s
    obtain ⟨k, hk, hs, hp⟩ := h
    by_cases h4 : (Sre.M.runFor 4 m).outcome.isSome = true
    · rw [if_pos h4]
      have e : Sre.M.runFor k m = Sre.M.runFor 4 m := by
        by_cases hk4 : k ≤ 4
        · have e1 := runFor_add k (4 - k) m
          rw [runFor_done hs, show k + (4 - k) = 4 by omega] at e1
          exact e1.symm
        · have e1 := runFor_add 4 (k - 4) m
          rw [runFor_done h4, show 4 + (k - 4) = k by omega] at e1
          exact e1
      rw [e] at hp
      exact wpAny_pure (hQ _ h4 hp)
    · rw [if_neg h4]
      have hk4 : ¬ k ≤ 4 := by
        intro hk4
        have e1 := runFor_add k (4 - k) m
        rw [runFor_done hs, show k + (4 - k) = 4 by omega] at e1
        rw [e1] at h4
        exact h4 hs
      have e1 := runFor_add 4 (k - 4) m
      rw [show 4 + (k - 4) = k by omega] at e1
      refine wpAny_bind (wpAny_rule ?_)
      rw [e1] at hs hp
      exact ih (k - 4) _ ⟨k - 4, Nat.le_refl _, hs, hp⟩ (by omega)
theorem wpAny_reRunToEnd {b : Nat} {m : Sre.M} {r : Option (Nat × Nat)} {Q : Option Sre.M → Shared → Prop} (h : Rch b m (Fnd r)) (hb : b < 4 * 18446744073709551616)
    (hQ : ∀ x : Option Sre.M, x.map (fun m => (m.start, m.handed)) = r → Q x s) : wpAny Mo A (reRunToEnd m) Q E s := by
  unfold reRunToEnd
  refine wpAny_bind ?_
  refine wpAny_reDrive (P := Fnd r) ?_ (2 ^ 64) b m ?_ hb
  · intro m' hs hp
    generalize List.range Sre.names.size = l
    refine wpAny_bind ?_
    induction l with
    | nil =>
      rw [List.forIn_nil]
      refine wpAny_pure ?_
      cases r with
      | none =>
        have e : m'.outcome = some Sre.Outcome.failed := hp
        rw [e]
        exact wpAny_pure (hQ none rfl)
      | some be =>
        obtain ⟨e, e1, e2⟩ := hp
        rw [e]
        refine wpAny_pure (hQ (some m') ?_)
        show some (m'.start, m'.handed) = some be
        rw [e1, e2]
    | cons i l ih =>
      rw [List.forIn_cons]
      refine wpAny_bind ?_
      by_cases hh : m'.seen.has i = true
      · rw [if_pos hh]
        exact wpAny_bind (wpAny_rule (wpAny_pure ih))
      · rw [if_neg hh]
        exact wpAny_pure ih
  · obtain ⟨k, hk, hp⟩ := h
    refine ⟨k, hk, ?_, hp⟩
    cases r with
    | none =>
      have e : (Sre.M.runFor k m).outcome = some Sre.Outcome.failed := hp
      rw [e]; rfl
    | some be => rw [hp.1]; rfl
end
end Mine
set_option Elab.async false
set_option maxRecDepth 100000
set_option linter.unusedSimpArgs false
namespace Mine
open PySem PySem.W PyProof.Rows PySem.Calls PySem.Spec PySem.Builtin.Re
theorem plain_sub : plainId "re.Pattern.sub" = true := by decide +kernel
theorem plain_subloop : plainId "re.Pattern.sub.loop" = true := by decide +kernel
theorem entry_sub : entryFor table "re.Pattern.sub" = some Builtin.«re.Pattern.sub» := entryFor_of_tree (by kernel_rfl)
theorem entry_subloop : entryFor table "re.Pattern.sub.loop" = some Builtin.«re.Pattern.sub.loop» := entryFor_of_tree (by kernel_rfl)
theorem slot_sub : Slot "re.Pattern" "sub" "re.Pattern.sub" :=
  .of (owner := "re.Pattern") (n := "sub") (by rw [typeLookup_type, builtinLookup_eq_fast]; kernel_rfl) (by decide +kernel) (by decide +kernel) (by decide +kernel)
    (by first | exact .inl (by decide +kernel) | exact .inr (by decide +kernel)) (by rw [isSubtype_type]; kernel_rfl)
theorem type_sub : typeOf (.builtin "re.Pattern.sub") = pure (.type "method_descriptor") := by show builtinType _ = _; rw [builtinType_eq_fast]; kernel_rfl
theorem plainAttrs_pat : PlainAttrs "re.Pattern" :=
  ⟨⟨"object.__getattribute__", by rw [typeLookup_type, builtinLookup_eq_fast]; kernel_rfl, by decide +kernel⟩, by rw [typeLookup_type, builtinLookup_eq_fast]; kernel_rfl⟩
theorem args_sub (a b c : Value) : argsOk "re.Pattern.sub" ⟨[a, b, c], []⟩ := by
  unfold argsOk
  kernel_rfl
end Mine
set_option Elab.async false
set_option maxRecDepth 100000
set_option linter.unusedSimpArgs false
namespace Mine
open PySem PySem.W PyProof.Rows PySem.Calls PySem.Spec PySem.Builtin.Re
section
variable {prog : Program} {w : World} {A : Around} {R : Result → Shared → Prop} {E : Value → Shared → Prop} {P C L : Addr}
noncomputable def codeVs (code : Array Nat) : Array Value := code.map fun (n : Nat) => Value.int (Int.ofNat n) 0
structure PatAt (h : Heap) (P C : Addr) (code : Array Nat) : Prop where
  pat : ∃ o p f fu u1 u2, h.get? P = some o ∧ o.data = .fields #[p, .int f fu, .int 0 u1, .none, .none, .ref C, .int 0 u2]
  code : ∃ o n, h.get? C = some o ∧ o.data = .seq (codeVs code) n
theorem codeVs_back (code : Array Nat) : ((codeVs code).map reRawOf).map (·.toNat) = code := by
  unfold codeVs
  rw [Array.map_map, Array.map_map]
  have : (((fun x : Int => x.toNat) ∘ reRawOf) ∘ fun (n : Nat) => Value.int (Int.ofNat n) 0) = _root_.id := by
    funext n; rfl
  rw [this, Array.map_id]
noncomputable def tgt (P : Addr) (x : Str) (t : Tok) (code : Array Nat) : ReTarget := { pattern := .ref P, string := .str x t, code, text := x.cps, kind := 0, groups := 0, pos := 0, lim := x.cps.size }
theorem wholeTarget {s : Shared} {code : Array Nat} {x : Str} {t : Tok} {Q : ReTarget → Shared → Prop} (hp : PatAt s.heap P C code) (h : Q (tgt P x t code) s) : wpAny (model prog w) A (reWholeTarget (.ref P) (.str x t)) Q E s := by
  obtain ⟨o, p, f, fu, u1, u2, ho, hd⟩ := hp.pat
  obtain ⟨oc, n, hoc, hdc⟩ := hp.code
  unfold reWholeTarget
  refine wpAny_bind (wpAny_fieldsOf ho hd ?_)
  unfold reTextOf
  refine wpAny_bind (wpAny_bind (wpAny_pure (wpAny_pure ?_)))
  show wpAny _ _ (reNoCollectionInside (.str x t) 0 >>= _) _ _ _
  refine wpAny_bind ?_
  unfold reNoCollectionInside
  refine wpAny_pure ?_
  unfold reRawItems
  refine wpAny_bind (wpAny_bind ?_)
  show wpAny _ _ (seqItems? (.ref C)) _ _ _
  refine wpAny_seqItems hoc hdc (wpAny_pure (wpAny_pure ?_))
  show Q { pattern := .ref P, string := .str x t, code := ((codeVs code).map reRawOf).map (·.toNat), text := x.cps, kind := 0, groups := 0, pos := 0, lim := x.cps.size } s
  rw [codeVs_back]
  exact h
theorem push_one {M : Model} {s : Shared} {l : List (Str × Tok)} {c : Nat} {y : Str} {ty : Tok} {Q : Unit → Shared → Prop} (hL : s.heap.get? L = some { cls := .type "list", dict := none, data := .seq (strValues l).toArray c, slots := #[] })
    (hn : l.length ≤ 10000) (h : ∀ h' c', (∀ b o, b ≠ L → s.heap.get? b = some o → h'.get? b = some o) → h'.get? L = some { cls := .type "list", dict := none, data := .seq (strValues (l ++ [(y, ty)])).toArray c', slots := #[] } → Q () { s with heap := h' }) :
    wpAny M A (updateSeq L (·.push (.str y ty))) Q E s := by
  have e2 : sizeLine = 16777216 := by decide
  have hsz : (strValues l).toArray.size = l.length := by rw [List.size_toArray]; exact List.length_map _
  have e : (strValues (l ++ [(y, ty)])).toArray = (strValues l).toArray.push (.str y ty) := by
    unfold strValues; rw [List.map_append]; simp
  obtain ⟨c', hc'⟩ : ∃ c', (s.heap.update L (Obj.mapSeq (·.push (.str y ty)))).get? L = some ({ cls := .type "list", dict := none, data := .seq (strValues (l ++ [(y, ty)])).toArray c', slots := #[] } : Obj) := by
    rw [e]
    exact ⟨_, Heap.get?_update_self (Obj.mapSeq (·.push (Value.str y ty))) hL rfl⟩
  exact wpAny_updateSeq hL rfl (h _ c' (fun b o hb e => (Heap.get?_update_other _ _ (Ne.symm hb)).trans e) hc') (by rw [hsz, e2]; omega) (by show ((strValues l).toArray.push _).size ≤ _; rw [Array.size_push, hsz, e2]; omega)
noncomputable def subL (fnd : Nat → Option (Nat × Nat)) (x z : List Nat) : Nat → Nat → List Nat
  | 0, d => x.drop d
  | k + 1, d => match fnd d with | some be => (x.drop d).take (be.1 - d) ++ z ++ subL fnd x z k be.2 | none => x.drop d
noncomputable def catS (l : List (Str × Tok)) : List Nat := l.flatMap fun p => p.1.cps.toList
theorem PatAt.keeps {h h' : Heap} {code : Array Nat} (p : PatAt h P C code) (hP : P ≠ L) (hC : C ≠ L) (k : ∀ b o, b ≠ L → h.get? b = some o → h'.get? b = some o) : PatAt h' P C code := by
  obtain ⟨⟨o, p, f, fu, u1, u2, ho, hd⟩, ⟨oc, n, hoc, hdc⟩⟩ := p
  exact ⟨⟨o, p, f, fu, u1, u2, k _ _ hP ho, hd⟩, ⟨oc, n, k _ _ hC hoc, hdc⟩⟩
theorem wp_slice {M : Model} {s : Shared} {x : Array Nat} {b e : Nat} {Q : Value → Shared → Prop} (hs : x.size ≤ 2000) (h : Q (.str ⟨x.extract b e⟩ s.toks) { s with toks := s.toks + 1 }) : wpAny M A (reSlice x 0 b e) Q E s := by
  show wpAny M A (mkStr ⟨x.extract b e⟩) Q E s
  refine wpAny_mkStr h ?_
  have e2 : sizeLine = 16777216 := by decide
  show (x.extract b e).size ≤ _
  rw [Array.size_extract, e2]; omega
theorem ext_list {x : Array Nat} {b e : Nat} : (x.extract b e).toList = (x.toList.drop b).take (e - b) := by
  simp [Array.toList_extract, List.extract]
theorem join_cat : ∀ l : List (Str × Tok), (Str.join ⟨#[]⟩ (l.map (·.1))).cps.toList = catS l
  | [] => rfl
  | [p] => by simp [catS, Str.join]
  | p :: q :: r => by
    have ih := join_cat (q :: r)
    show (p.1 ++ ⟨#[]⟩ ++ Str.join ⟨#[]⟩ ((q :: r).map (·.1))).cps.toList = p.1.cps.toList ++ catS (q :: r)
    rw [Str.cps_append, Str.cps_append, Array.toList_append, Array.toList_append, ih]
    simp
theorem join_end {s : Shared} {x : Array Nat} {l : List (Str × Tok)} {c : Nat} {F : Fin → Shared → Prop} (hx : x.size ≤ 2000) (hL : s.heap.get? L = some { cls := .type "list", dict := none, data := .seq (strValues l).toArray c, slots := #[] })
    (hl : l.length ≤ 5000) (hB : ∀ p ∈ l, p.1.length ≤ 2000) (h : ∀ tk' t', F (.done (.ret (.str ⟨(catS l).toArray⟩ t'))) { s with toks := tk' }) :
    wpAny (model prog w) A (reSlice x 0 0 0 >>= fun joiner => seqItems? (.ref L) >>= fun it => if (it.getD #[]).isEmpty = true then ret joiner else (call (.builtin (if ((0 : Nat) == 0) = true then "str.join" else "bytes.join")) [joiner, .ref L] >>= fun v => ret v)) F E s := by
  refine wpAny_bind (wp_slice hx ?_)
  have e0 : (⟨x.extract 0 0⟩ : Str) = ⟨#[]⟩ := by simp
  rw [e0]
  refine wpAny_bind (wpAny_seqItems hL rfl ?_)
  cases l with
  | nil =>
    have he : (((some (strValues ([] : List (Str × Tok))).toArray).getD #[]).isEmpty) = true := rfl
    rw [he, if_pos rfl]
    exact wpAny_pure (h _ _)
  | cons p r =>
    have hne : (((some (strValues (p :: r)).toArray).getD #[]).isEmpty) = false := by simp [strValues]
    rw [hne, if_neg Bool.false_ne_true]
    refine wpAny_bind ?_
    show wpAny _ _ (call (Value.builtin "str.join") _) _ _ _
    refine SC.join (l := p :: r) (texts := (p :: r).map (·.1)) ⟨_, hL, rfl, _, rfl⟩ rfl ?_ ?_
    · unfold JoinOk
      rw [Bool.not_eq_true']
      refine StrLaws.joinFits (B := 2000) (fun y hy => ?_) ?_
      · obtain ⟨q, hq, rfl⟩ := List.mem_map.mp hy
        exact hB q hq
      · rw [List.length_map]
        show (p :: r).length * 2000 + (p :: r).length * 0 ≤ _
        omega
    · intro t' k
      refine wpAny_pure ?_
      have e : Txt.join ⟨#[]⟩ ((p :: r).map (·.1)) = ⟨(catS (p :: r)).toArray⟩ := by
        show PySem.Builtin.Str.glued _ _ = _
        rw [StrLaws.glued_eq_join, ← join_cat]
      rw [e]
      exact h _ _
theorem catS_app (l m : List (Str × Tok)) : catS (l ++ m) = catS l ++ catS m := by unfold catS; rw [List.flatMap_append]
theorem sub_loop {code : Array Nat} {fnd : Nat → Option (Nat × Nat)} {x z : Str} {t tz : Tok} (hx : x.cps.size ≤ 2000) (hz : z.length ≤ 2000) (hPL : P ≠ L) (hCL : C ≠ L)
    (hf : ∀ s, Rch (8 * x.cps.size + 20) (Sre.forSearch code x.cps 0 s x.cps.size false) (Fnd (fnd s))) (hr : ∀ s b e, fnd s = some (b, e) → s ≤ b ∧ b < e ∧ e ≤ x.cps.size) :
    ∀ (k d : Nat) (n : Int) (s : Shared) (l : List (Str × Tok)) (c : Nat), x.cps.size - d ≤ k → d ≤ x.cps.size → PatAt s.heap P C code → s.heap.get? L = some { cls := .type "list", dict := none, data := .seq (strValues l).toArray c, slots := #[] } →
    l.length ≤ 2 * d → (∀ p ∈ l, p.1.length ≤ 2000) →
    (∀ h' tk' t', (∀ b o, b ≠ L → s.heap.get? b = some o → h'.get? b = some o) → R (.ok (.ret (.str ⟨(catS l ++ subL fnd x.cps.toList z.cps.toList (k + 1) d).toArray⟩ t'))) { s with heap := h', toks := tk' }) →
    codeAny (model prog w) A (.builtin "re.Pattern.sub.loop" ⟨[.ref P, .str x t, .str z tz, rawInt 0, rawInt 0, rawInt n, rawInt d, rawInt d, .bool false, .ref L, .bool false], []⟩) R s := by
  intro k
  induction k using Nat.strongRecOn with
  | ind k ih =>
    intro d n s l c hk hd hp hL hl hB hR
    refine codeAny_builtin entry_subloop ?_
    rw [Around.under_plainId plain_subloop _]
    unfold Builtin.«re.Pattern.sub.loop» rawInt
    have z0 : ((0 : Int) == 0) = true := rfl
    have z1 : ((0 : Int) != 0) = false := rfl
    have z2 : (Value.str z tz != Value.none) = true := rfl
    simp only [z0, z1, Bool.false_and, Bool.false_eq_true, if_false, if_true, Int.toNat_natCast, pure_bind, z2]
    refine wpAny_bind (wholeTarget hp ?_)
    refine wpAny_bind ?_
    unfold reLiteralCannotBeTurned
    refine wpAny_bind (wpAny_pure ?_)
    refine wpAny_pure ?_
    refine wpAny_bind ?_
    unfold reNextFound
    refine wpAny_reRunToEnd (hf d) (by omega) ?_
    intro r hr'
    have ext : ∀ b e, ((⟨x.cps.extract b e⟩ : Str)).length ≤ 2000 := by
      intro b e
      show (x.cps.extract b e).size ≤ _
      rw [Array.size_extract]; omega
    cases r with
    | none =>
      have e : fnd d = none := hr'.symm
      have er : subL fnd x.cps.toList z.cps.toList (k + 1) d = x.cps.toList.drop d := by unfold subL; rw [e]
      rw [er] at hR
      dsimp only
      by_cases hlt : d < x.cps.size
      · rw [if_pos (by exact hlt)]
        refine wpAny_bind (wp_slice hx ?_)
        refine wpAny_bind (push_one hL (by omega) ?_)
        intro h1 c1 k1 hL1
        refine join_end (l := l ++ [(⟨x.cps.extract d x.cps.size⟩, s.toks)]) hx hL1 (by rw [List.length_append, List.length_singleton]; omega) ?_ ?_
        · intro p hp
          rcases List.mem_append.mp hp with hp | hp
          · exact hB p hp
          · rw [List.mem_singleton.mp hp]; exact ext _ _
        · intro tk' t'
          have := hR h1 tk' t' k1
          rw [catS_app]
          have e3 : catS [((⟨x.cps.extract d x.cps.size⟩ : Str), s.toks)] = x.cps.toList.drop d := by
            unfold catS
            rw [List.flatMap_singleton]
            show (x.cps.extract d x.cps.size).toList = _
            rw [ext_list]
            exact List.take_of_length_le (by rw [List.length_drop, Array.length_toList]; omega)
          rw [e3]
          exact this
      · rw [if_neg (by exact hlt)]
        refine join_end (l := l) hx hL (by omega) hB ?_
        intro tk' t'
        have := hR s.heap tk' t' (fun _ _ _ e => e)
        rw [List.drop_eq_nil_of_le (by rw [Array.length_toList]; omega), List.append_nil] at this
        exact this
    | some m =>
      have e : fnd d = some (m.start, m.handed) := hr'.symm
      obtain ⟨r1, r2, r3⟩ := hr d _ _ e
      have er : subL fnd x.cps.toList z.cps.toList (k + 1) d = (x.cps.toList.drop d).take (m.start - d) ++ z.cps.toList ++ subL fnd x.cps.toList z.cps.toList k m.handed := by conv => lhs; unfold subL; rw [e]
      rw [er] at hR
      dsimp only
      have hne : (m.handed == m.start) = false := by simp; omega
      rw [hne]
      have go : ∀ (s1 : Shared) (l1 : List (Str × Tok)) (c1 : Nat), (∃ h1 tk1, s1 = { s with heap := h1, toks := tk1 }) → (∀ b o, b ≠ L → s.heap.get? b = some o → s1.heap.get? b = some o) →
          s1.heap.get? L = some { cls := .type "list", dict := none, data := .seq (strValues l1).toArray c1, slots := #[] } → l1.length ≤ 2 * d + 1 → (∀ p ∈ l1, p.1.length ≤ 2000) → catS l1 = catS l ++ (x.cps.toList.drop d).take (m.start - d) →
          wpAny (model prog w) A.in1 (updateSeq L (fun x => x.push (Value.str z tz)) >>= fun _ => again (Code.builtin "re.Pattern.sub.loop" ⟨[Value.ref P, Value.str x t, Value.str z tz, Value.int 0 0, Value.int 0 0, Value.int (n + 1) 0, Value.int (↑m.handed) 0, Value.int (↑m.handed) 0, Value.bool false, Value.ref L, Value.bool false], []⟩))
            (fun fin s' => match fin with | .done f => R (.ok f) s' | .again c' => c'.quiet = true ∧ codeAny (model prog w) A c' R s') (fun e s' => R (.error e) s') s1 := by
        intro s1 l1 c1 hs1 k1 hL1 hl1 hB1 hc1
        obtain ⟨h1, tk1, rfl⟩ := hs1
        refine wpAny_bind (push_one hL1 (by omega) ?_)
        intro h2 c2 k2 hL2
        refine wpAny_pure ⟨plainId_quiet plain_subloop _, ?_⟩
        obtain ⟨k', rfl⟩ : ∃ k', k = k' + 1 := ⟨k - 1, by omega⟩
        refine ih k' (by omega) m.handed (n + 1) { s with heap := h2, toks := tk1 } (l1 ++ [(z, tz)]) c2 (by omega) r3 ((hp.keeps hPL hCL k1).keeps hPL hCL k2) hL2 (by rw [List.length_append, List.length_singleton]; omega) ?_ ?_
        · intro p hp
          rcases List.mem_append.mp hp with hp | hp
          · exact hB1 p hp
          · rw [List.mem_singleton.mp hp]; exact hz
        · intro h' tk' t' k3
          have := hR h' tk' t' (fun b o hb e => k3 b o hb (k2 b o hb (k1 b o hb e)))
          rw [catS_app, hc1]
          have e3 : catS [(z, tz)] = z.cps.toList := by unfold catS; rw [List.flatMap_singleton]
          rw [e3, List.append_assoc, List.append_assoc]
          rw [List.append_assoc] at this
          exact this
      by_cases hlt : d < m.start
      · rw [if_pos hlt]
        refine wpAny_bind (wp_slice hx ?_)
        refine wpAny_bind (push_one hL (by omega) ?_)
        intro h1 c1 k1 hL1
        refine go { s with heap := h1, toks := s.toks + 1 } (l ++ [(⟨x.cps.extract d m.start⟩, s.toks)]) c1 ⟨_, _, rfl⟩ k1 hL1 (by rw [List.length_append, List.length_singleton]; omega) ?_ ?_
        · intro p hp
          rcases List.mem_append.mp hp with hp | hp
          · exact hB p hp
          · rw [List.mem_singleton.mp hp]; exact ext _ _
        · rw [catS_app]
          unfold catS
          rw [List.flatMap_singleton]
          show _ ++ (x.cps.extract d m.start).toList = _
          rw [ext_list]
      · rw [if_neg hlt]
        refine go s l c ⟨_, _, rfl⟩ (fun _ _ _ e => e) hL (by omega) hB ?_
        rw [show m.start - d = 0 by omega, List.take_zero, List.append_nil]
end
end Mine
set_option Elab.async false
set_option maxRecDepth 100000
set_option linter.unusedSimpArgs false
namespace Mine
open PySem PySem.W PyProof.Rows PySem.Calls PySem.Spec PySem.Builtin.Re
set_option maxHeartbeats 4000000
theorem named_sub (a b : Value) : reNamed "re.Pattern.sub" "sub" ["repl", "string", "count"] 2 [a, b] [] = pure [some a, some b, none] := by
  rfl
theorem str_no_call : typeLookup (.type "str") "__call__" = pure none := by rw [typeLookup_type, builtinLookup_eq_fast]; kernel_rfl
section
variable {prog : Program} {w : World} {A : Around} {E : Value → Shared → Prop} {P C : Addr}
theorem call_sub {s : Shared} {code : Array Nat} {fnd : Nat → Option (Nat × Nat)} {x z : Str} {t tz : Tok} {Q : Value → Shared → Prop} (hp : PatAt s.heap P C code) (hT : s.TypeIs (.ref P) "re.Pattern") (hx : x.cps.size ≤ 2000) (hz : z.length ≤ 2000) (hz2 : z.cps.contains 92 = false)
    (hf : ∀ s, Rch (8 * x.cps.size + 20) (Sre.forSearch code x.cps 0 s x.cps.size false) (Fnd (fnd s))) (hr : ∀ s b e, fnd s = some (b, e) → s ≤ b ∧ b < e ∧ e ≤ x.cps.size)
    (hQ : ∀ h' tk' t', Grow s.heap h' → Q (.str ⟨(subL fnd x.cps.toList z.cps.toList (x.cps.size + 1) 0).toArray⟩ t') { s with heap := h', toks := tk' }) :
    wpAny (model prog w) A (call (.builtin "re.Pattern.sub") [.ref P, .str z tz, .str x t]) Q E s := by
  refine wpAny_call (codeAny_call_builtin plain_sub entry_sub (slot_sub.check _ _ _ _ _ _ _ _ hT (args_sub _ _ _) ?_))
  unfold Builtin.«re.Pattern.sub» reSubstitute
  dsimp only
  rw [named_sub]
  refine wpAny_bind (wpAny_pure ?_)
  dsimp only
  refine wpAny_bind (wpAny_pure ?_)
  refine wpAny_bind ?_
  refine wpAny_specialOf (typeIs_str _ _ _) str_no_call ?_
  have z1 : ((0 : Int) == 1) = false := rfl
  simp only [Option.isSome_none, Bool.false_eq_true, if_false, asStr?, pure_bind, hz2, Bool.not_false, if_true, z1]
  refine wpAny_bind (wpAny_holding (wholeTarget hp ?_))
  refine wpAny_bind (wpAny_newList ?_)
  have e2 : sizeLine = 16777216 := by decide
  obtain ⟨o, p, f, fu, u1, u2, ho, hd⟩ := id hp.pat
  obtain ⟨oc, nc, hoc, hdc⟩ := id hp.code
  refine wpAny_pure ⟨plainId_quiet plain_subloop _, ?_⟩
  refine sub_loop (L := s.heap.objs.size) hx hz (Nat.ne_of_lt (Heap.lt_size ho)) (Nat.ne_of_lt (Heap.lt_size hoc)) hf hr x.cps.size 0 0 { s with heap := s.heap.push { cls := .type "list", data := .seq ([] : List Value).toArray } } [] 0 (by omega) (by omega) ?_ (Heap.get?_push_size _ rfl) (by show 0 ≤ _; omega) (fun p hp => nomatch hp) ?_
  · exact ⟨⟨o, p, f, fu, u1, u2, Heap.get?_push_of_some _ ho, hd⟩, ⟨oc, nc, Heap.get?_push_of_some _ hoc, hdc⟩⟩
  · intro h' tk' t' k
    refine hQ h' tk' t' ?_
    intro b o e
    exact k b o (Nat.ne_of_lt (Heap.lt_size e)) (Heap.get?_push_of_some _ e)
theorem meth_sub {s : Shared} {code : Array Nat} {pl : Sem Bool} {Q : Value × List Value → Shared → Prop} (hT : s.TypeIs (.ref P) "re.Pattern") (hn : ∃ o, s.heap.get? P = some o ∧ o.dict = none) (h : Q (.builtin "re.Pattern.sub", [.ref P]) s) :
    wpAny (model prog w) A (getMethod (.ref P) "sub" pl) Q E s :=
  getMethod_builtin hT plainAttrs_pat slot_sub type_sub (fun a e => by cases e; exact hn) h
end
end Mine
set_option Elab.async false
set_option maxRecDepth 100000
set_option linter.unusedSimpArgs false
namespace Mine
open PySem PySem.W PyProof.Rows PySem.Calls PySem.Spec PySem.Builtin.Re
set_option maxHeartbeats 4000000
noncomputable def leL : Bool → List Nat → List Nat
  | _, [] => []
  | h, c :: r => if c = 13 then 13 :: 10 :: leL true r else if c = 10 then (if h then leL false r else 13 :: 10 :: leL false r) else c :: leL false r
noncomputable def dtL : Bool → List Nat → List Nat
  | _, [] => []
  | f, c :: r => (if c = 46 ∧ f = true then [46, 46] else [c]) ++ dtL (c == 10) r
theorem drop_cons {x : Array Nat} {s : Nat} (h : s < x.size) : x.toList.drop s = x.getD s 0 :: x.toList.drop (s + 1) := by
  rw [List.drop_eq_getElem_cons (by rw [Array.length_toList]; exact h)]
  congr 1
  simp [Array.getD, h]
theorem leL_true {r : List Nat} (h : ∀ r', r ≠ 10 :: r') : leL true r = leL false r := by
  cases r with
  | nil => rfl
  | cons c r =>
    have hc : ¬ c = 10 := fun e => h r (by rw [e])
    unfold leL
    by_cases h13 : c = 13
    · rw [if_pos h13, if_pos h13]
    · rw [if_neg h13, if_neg hc, if_neg h13, if_neg hc]
noncomputable def fnd1 (x : Array Nat) (s : Nat) : Option (Nat × Nat) := if s < x.size then find1 x (x.size - s) s else none
noncomputable def fnd2 (x : Array Nat) (s : Nat) : Option (Nat × Nat) := if s < x.size then find2 x (x.size - s) s else none
theorem find1_spec {x : Array Nat} : ∀ (n s b e : Nat), find1 x n s = some (b, e) → s + n ≤ x.size → s ≤ b ∧ b < x.size ∧ at1 x b ∧ e = b + 1 := by
  intro n
  induction n with
  | zero => intro s b e h; cases h
  | succ k ih =>
    intro s b e h hs
    unfold find1 at h
    by_cases hc : at1 x s
    · rw [if_pos hc] at h; cases h; exact ⟨by omega, by omega, hc, rfl⟩
    · rw [if_neg hc] at h
      have := ih (s + 1) b e h (by omega)
      exact ⟨by omega, this.2⟩
theorem find2_le {x : Array Nat} : ∀ (n s b e : Nat), find2 x n s = some (b, e) → s ≤ b := by
  intro n
  induction n with
  | zero => intro s b e h; cases h
  | succ k ih =>
    intro s b e h
    unfold find2 at h
    by_cases hc : eol x s
    · rw [if_pos hc] at h; cases h; exact Nat.le_refl _
    · rw [if_neg hc] at h
      have := ih (s + 1) b e h
      omega
theorem fnd1_r {x : Array Nat} (s b e : Nat) (h : fnd1 x s = some (b, e)) : s ≤ b ∧ b < e ∧ e ≤ x.size := by
  unfold fnd1 at h
  by_cases hs : s < x.size
  · rw [if_pos hs] at h
    have := find1_spec _ _ _ _ h (by omega)
    omega
  · rw [if_neg hs] at h; cases h
theorem fnd2_r {x : Array Nat} (s b e : Nat) (h : fnd2 x s = some (b, e)) : s ≤ b ∧ b < e ∧ e ≤ x.size := by
  unfold fnd2 at h
  by_cases hs : s < x.size
  · rw [if_pos hs] at h
    have h1 := find2_le _ _ _ _ h
    obtain ⟨h2, _, h3⟩ := find2_spec _ _ _ _ h (by omega)
    unfold end2 at h3
    by_cases hq : x.getD b 0 = 13 ∧ b + 1 < x.size ∧ x.getD (b + 1) 0 = 10
    · rw [if_pos hq] at h3; omega
    · rw [if_neg hq] at h3; omega
  · rw [if_neg hs] at h; cases h
theorem le_find {x : Array Nat} : ∀ (n s : Nat), x.size - s = n → s ≤ x.size → match find2 x n s with
    | none => leL false (x.toList.drop s) = x.toList.drop s
    | some be => leL false (x.toList.drop s) = (x.toList.drop s).take (be.1 - s) ++ [13, 10] ++ leL false (x.toList.drop be.2) := by
  intro n
  induction n with
  | zero =>
    intro s hs hle
    show leL false (x.toList.drop s) = x.toList.drop s
    rw [List.drop_eq_nil_of_le (by rw [Array.length_toList]; omega)]; rfl
  | succ k ih =>
    intro s hs hle
    have hlt : s < x.size := by omega
    unfold find2
    by_cases hc : eol x s
    · rw [if_pos hc]
      show leL false (x.toList.drop s) = (x.toList.drop s).take (s - s) ++ [13, 10] ++ leL false (x.toList.drop (end2 x s))
      rw [Nat.sub_self, List.take_zero, drop_cons hlt]
      rcases hc with hc | hc
      · have e : end2 x s = s + 1 := by unfold end2; rw [if_neg (by omega)]
        rw [e, hc]; rfl
      · rw [hc]
        show 13 :: 10 :: leL true (x.toList.drop (s + 1)) = _
        by_cases hq : s + 1 < x.size ∧ x.getD (s + 1) 0 = 10
        · have e : end2 x s = s + 2 := by unfold end2; rw [if_pos ⟨hc, hq⟩]
          rw [e, drop_cons hq.1, hq.2]; rfl
        · have e : end2 x s = s + 1 := by unfold end2; rw [if_neg (fun a => hq a.2)]
          rw [e, leL_true ?_]
          · rfl
          · intro r' hr'
            by_cases h1 : s + 1 < x.size
            · rw [drop_cons h1] at hr'
              exact hq ⟨h1, (List.cons.inj hr').1⟩
            · rw [List.drop_eq_nil_of_le (by rw [Array.length_toList]; omega)] at hr'; cases hr'
    · rw [if_neg hc]
      have := ih (s + 1) (by omega) (by omega)
      have e1 : leL false (x.toList.drop s) = x.getD s 0 :: leL false (x.toList.drop (s + 1)) := by
        rw [drop_cons hlt]
        conv => lhs; unfold leL
        rw [if_neg (fun a => hc (.inr a)), if_neg (fun a => hc (.inl a))]
      cases hf : find2 x k (s + 1) with
      | none =>
        rw [hf] at this
        show leL false (x.toList.drop s) = x.toList.drop s
        rw [e1, show leL false (x.toList.drop (s + 1)) = _ from this, ← drop_cons hlt]
      | some be =>
        rw [hf] at this
        have hb := find2_le _ _ _ _ (show find2 x k (s + 1) = some (be.1, be.2) from hf)
        show leL false (x.toList.drop s) = (x.toList.drop s).take (be.1 - s) ++ [13, 10] ++ leL false (x.toList.drop be.2)
        rw [e1, show leL false (x.toList.drop (s + 1)) = _ from this, drop_cons hlt, show be.1 - s = (be.1 - (s + 1)) + 1 by omega]
        rfl
noncomputable def frs (x : Array Nat) (s : Nat) : Bool := decide (s = 0 ∨ x.getD (s - 1) 0 = 10)
theorem frs_succ {x : Array Nat} {s : Nat} : frs x (s + 1) = (x.getD s 0 == 10) := by
  unfold frs
  rw [Nat.add_sub_cancel]
  by_cases h : x.getD s 0 = 10
  · rw [decide_eq_true (.inr h), h]; rfl
  · rw [decide_eq_false (by omega), beq_false_of_ne h]
theorem dt_find {x : Array Nat} : ∀ (n s : Nat), x.size - s = n → s ≤ x.size → match find1 x n s with
    | none => dtL (frs x s) (x.toList.drop s) = x.toList.drop s
    | some be => dtL (frs x s) (x.toList.drop s) = (x.toList.drop s).take (be.1 - s) ++ [46, 46] ++ dtL (frs x be.2) (x.toList.drop be.2) := by
  intro n
  induction n with
  | zero =>
    intro s hs hle
    show dtL (frs x s) (x.toList.drop s) = x.toList.drop s
    rw [List.drop_eq_nil_of_le (by rw [Array.length_toList]; omega)]; rfl
  | succ k ih =>
    intro s hs hle
    have hlt : s < x.size := by omega
    unfold find1
    by_cases hc : at1 x s
    · rw [if_pos hc]
      show dtL (frs x s) (x.toList.drop s) = (x.toList.drop s).take (s - s) ++ [46, 46] ++ dtL (frs x (s + 1)) (x.toList.drop (s + 1))
      have hf : frs x s = true := decide_eq_true hc.2
      rw [Nat.sub_self, List.take_zero, drop_cons hlt, frs_succ]
      conv => lhs; unfold dtL
      rw [if_pos ⟨hc.1, hf⟩]; rfl
    · rw [if_neg hc]
      have := ih (s + 1) (by omega) (by omega)
      have e1 : dtL (frs x s) (x.toList.drop s) = x.getD s 0 :: dtL (frs x (s + 1)) (x.toList.drop (s + 1)) := by
        rw [drop_cons hlt, frs_succ]
        conv => lhs; unfold dtL
        rw [if_neg (fun a => hc ⟨a.1, of_decide_eq_true a.2⟩)]; rfl
      cases hf : find1 x k (s + 1) with
      | none =>
        rw [hf] at this
        show dtL (frs x s) (x.toList.drop s) = x.toList.drop s
        rw [e1, show dtL (frs x (s + 1)) (x.toList.drop (s + 1)) = _ from this, ← drop_cons hlt]
      | some be =>
        rw [hf] at this
        have hb := (find1_spec _ _ _ _ (show find1 x k (s + 1) = some (be.1, be.2) from hf) (by omega)).1
        show dtL (frs x s) (x.toList.drop s) = (x.toList.drop s).take (be.1 - s) ++ [46, 46] ++ dtL (frs x be.2) (x.toList.drop be.2)
        rw [e1, show dtL (frs x (s + 1)) (x.toList.drop (s + 1)) = _ from this, drop_cons hlt, show be.1 - s = (be.1 - (s + 1)) + 1 by omega]
        rfl
theorem sub2_is {x : Array Nat} : ∀ (k d : Nat), x.size - d ≤ k → d ≤ x.size → subL (fnd2 x) x.toList [13, 10] (k + 1) d = leL false (x.toList.drop d) := by
  intro k
  induction k with
  | zero =>
    intro d hk hd
    unfold subL
    have e : fnd2 x d = none := by unfold fnd2; rw [if_neg (by omega)]
    rw [e, List.drop_eq_nil_of_le (by rw [Array.length_toList]; omega)]; rfl
  | succ k ih =>
    intro d hk hd
    unfold subL
    have h1 := le_find (x := x) (x.size - d) d rfl hd
    cases hf : fnd2 x d with
    | none =>
      show x.toList.drop d = _
      by_cases hlt : d < x.size
      · unfold fnd2 at hf
        rw [if_pos hlt] at hf
        rw [hf] at h1
        exact h1.symm
      · rw [List.drop_eq_nil_of_le (by rw [Array.length_toList]; omega)]; rfl
    | some be =>
      have hr := fnd2_r d be.1 be.2 hf
      unfold fnd2 at hf
      rw [if_pos (by omega)] at hf
      rw [hf] at h1
      show (x.toList.drop d).take (be.1 - d) ++ [13, 10] ++ subL (fnd2 x) x.toList [13, 10] (k + 1) be.2 = _
      rw [ih be.2 (by omega) hr.2.2]
      exact h1.symm
theorem sub1_is {x : Array Nat} : ∀ (k d : Nat), x.size - d ≤ k → d ≤ x.size → subL (fnd1 x) x.toList [46, 46] (k + 1) d = dtL (frs x d) (x.toList.drop d) := by
  intro k
  induction k with
  | zero =>
    intro d hk hd
    unfold subL
    have e : fnd1 x d = none := by unfold fnd1; rw [if_neg (by omega)]
    rw [e, List.drop_eq_nil_of_le (by rw [Array.length_toList]; omega)]; rfl
  | succ k ih =>
    intro d hk hd
    unfold subL
    have h1 := dt_find (x := x) (x.size - d) d rfl hd
    cases hf : fnd1 x d with
    | none =>
      show x.toList.drop d = _
      by_cases hlt : d < x.size
      · unfold fnd1 at hf
        rw [if_pos hlt] at hf
        rw [hf] at h1
        exact h1.symm
      · rw [List.drop_eq_nil_of_le (by rw [Array.length_toList]; omega)]; rfl
    | some be =>
      have hr := fnd1_r d be.1 be.2 hf
      unfold fnd1 at hf
      rw [if_pos (by omega)] at hf
      rw [hf] at h1
      show (x.toList.drop d).take (be.1 - d) ++ [46, 46] ++ subL (fnd1 x) x.toList [46, 46] (k + 1) be.2 = _
      rw [ih be.2 (by omega) hr.2.2]
      exact h1.symm
end Mine
set_option Elab.async false
set_option maxRecDepth 100000
set_option linter.unusedSimpArgs false
namespace Mine
open PySem PySem.W PyProof.Rows PySem.Calls PySem.Spec PySem.Builtin.Re
set_option maxHeartbeats 4000000
theorem look_o77 (P : Params) : (K P).lookup 77 = some (o77 P) := by kernel_rfl
theorem look_o78 (P : Params) : (K P).lookup 78 = some (o78 P) := by kernel_rfl
theorem look_o82 (P : Params) : (K P).lookup 82 = some (o82 P) := by kernel_rfl
theorem look_o83 (P : Params) : (K P).lookup 83 = some (o83 P) := by kernel_rfl
theorem pat1 {w : World} {h : Heap} (X : (K w.params).In h) : PatAt h 78 77 code1 :=
  ⟨⟨_, _, _, _, _, _, X _ _ (look_o78 _), rfl⟩, ⟨_, 0, X _ _ (look_o77 _), by kernel_rfl⟩⟩
theorem pat2 {w : World} {h : Heap} (X : (K w.params).In h) : PatAt h 83 82 code2 :=
  ⟨⟨_, _, _, _, _, _, X _ _ (look_o83 _), rfl⟩, ⟨_, 0, X _ _ (look_o82 _), by kernel_rfl⟩⟩
theorem search1' (x : Array Nat) (s : Nat) : Rch (8 * x.size + 20) (Sre.forSearch code1 x 0 s x.size false) (Fnd (fnd1 x s)) := Rch.le (search1 s) (by omega)
theorem search2' (x : Array Nat) (s : Nat) : Rch (8 * x.size + 20) (Sre.forSearch code2 x 0 s x.size false) (Fnd (fnd2 x s)) := search2 s
section
variable {w : World} {A : Around} {E : Value → Shared → Prop} {s : Shared} {h₀ : Heap} {L : Addr} {m : Str → Option Value} {news : List (Addr × Obj)}
noncomputable def dts (x : Str) : Str := ⟨(dtL true x.cps.toList).toArray⟩
noncomputable def les (x : Str) : Str := ⟨(leL false x.cps.toList).toArray⟩
theorem call_dts {x : Str} {t tz : Tok} {Q : Value → Shared → Prop} (Fh : Fr h₀ L s.heap m) (N : News h₀ L s.heap news) (X : (K w.params).In h₀) (hx : x.length ≤ 2000)
    (hQ : ∀ h' tk' t', Fr h₀ L h' m → News h₀ L h' news → Q (.str (dts x) t') { s with heap := h', toks := tk' }) :
    wpAny (model PySem.Challenge.rw_st0031_01.prog w) A (call (.builtin "re.Pattern.sub") [.ref 78, .str (Str.ofString "..") tz, .str x t]) Q E s := by
  have X' := X.keeps Fh.keep
  refine call_sub (code := code1) (fnd := fnd1 x.cps) (pat1 X') ⟨_, X' _ _ (look_o78 _), rfl⟩ hx (by decide +kernel) (by decide +kernel) (search1' x.cps) fnd1_r ?_
  intro h' tk' t' g
  have e : subL (fnd1 x.cps) x.cps.toList (Str.ofString "..").cps.toList (x.cps.size + 1) 0 = dtL true x.cps.toList := by
    rw [show (Str.ofString "..").cps.toList = [46, 46] by decide +kernel, sub1_is _ _ (by omega) (by omega)]; rfl
  rw [e]
  exact hQ h' tk' t' (g.fr Fh) (g.news N)
theorem call_les {x : Str} {t tz : Tok} {Q : Value → Shared → Prop} (Fh : Fr h₀ L s.heap m) (N : News h₀ L s.heap news) (X : (K w.params).In h₀) (hx : x.length ≤ 2000)
    (hQ : ∀ h' tk' t', Fr h₀ L h' m → News h₀ L h' news → Q (.str (les x) t') { s with heap := h', toks := tk' }) :
    wpAny (model PySem.Challenge.rw_st0031_01.prog w) A (call (.builtin "re.Pattern.sub") [.ref 83, .str (Str.ofString "\x0d\n") tz, .str x t]) Q E s := by
  have X' := X.keeps Fh.keep
  refine call_sub (code := code2) (fnd := fnd2 x.cps) (pat2 X') ⟨_, X' _ _ (look_o83 _), rfl⟩ hx (by decide +kernel) (by decide +kernel) (search2' x.cps) fnd2_r ?_
  intro h' tk' t' g
  have e : subL (fnd2 x.cps) x.cps.toList (Str.ofString "\x0d\n").cps.toList (x.cps.size + 1) 0 = leL false x.cps.toList := by
    rw [show (Str.ofString "\x0d\n").cps.toList = [13, 10] by decide +kernel, sub2_is _ _ (by omega) (by omega)]; rfl
  rw [e]
  exact hQ h' tk' t' (g.fr Fh) (g.news N)
theorem meth1 {pl : Sem Bool} {Q : Value × List Value → Shared → Prop} (Fh : Fr h₀ L s.heap m) (X : (K w.params).In h₀) (h : Q (.builtin "re.Pattern.sub", [.ref 78]) s) :
    wpAny (model PySem.Challenge.rw_st0031_01.prog w) A (getMethod (.ref 78) "sub" pl) Q E s :=
  have X' := X.keeps Fh.keep
  meth_sub (code := code1) ⟨_, X' _ _ (look_o78 _), rfl⟩ ⟨_, X' _ _ (look_o78 _), rfl⟩ h
theorem meth2 {pl : Sem Bool} {Q : Value × List Value → Shared → Prop} (Fh : Fr h₀ L s.heap m) (X : (K w.params).In h₀) (h : Q (.builtin "re.Pattern.sub", [.ref 83]) s) :
    wpAny (model PySem.Challenge.rw_st0031_01.prog w) A (getMethod (.ref 83) "sub" pl) Q E s :=
  have X' := X.keeps Fh.keep
  meth_sub (code := code2) ⟨_, X' _ _ (look_o83 _), rfl⟩ ⟨_, X' _ _ (look_o83 _), rfl⟩ h
end
theorem leL_len : ∀ (h : Bool) (l : List Nat), (leL h l).length ≤ 2 * l.length
  | _, [] => Nat.zero_le _
  | h, c :: r => by
    have h1 := leL_len true r
    have h2 := leL_len false r
    unfold leL
    by_cases e : c = 13
    · rw [if_pos e]; simp only [List.length_cons]; omega
    · rw [if_neg e]
      by_cases e2 : c = 10
      · rw [if_pos e2]; cases h <;> simp only [Bool.false_eq_true, if_false, if_true, List.length_cons] <;> omega
      · rw [if_neg e2]; simp only [List.length_cons]; omega
theorem les_len (x : Str) : (les x).length ≤ 2 * x.length := by
  have := leL_len false x.cps.toList
  rw [Array.length_toList] at this
  show (leL false x.cps.toList).toArray.size ≤ _
  rw [List.size_toArray]; exact this
noncomputable def quo (x : Str) : Str := dts (les x)
local macro_rules | `(tactic| walk_at "getMethod ref") => `(tactic| (k_here; (with_reducible show wpAny _ _ (getMethod (Value.ref 78) _ _) _ _ _); refine meth1 (by k_asm) (by k_asm) ?_))
local macro_rules | `(tactic| walk_at "getMethod ref") => `(tactic| (k_here; (with_reducible show wpAny _ _ (getMethod (Value.ref 83) _ _) _ _ _); refine meth2 (by k_asm) (by k_asm) ?_))
theorem spec_quote (w : World) (x : Str) (t : Tok) (hx : x.length ≤ 1000) : Spec w 2 6 90 [.str x t] (fun t => .str (quo x) t) := by
  refine spec_of (d := 1) (u := 3) (i := 12) (name := "quotedata") (cd := .ref 89) (binds := [("data", .str x t)]) (o := o90 w.params) (pm := .str (Str.ofString "cpy313.smtplib") 326) rfl rfl (by kernel_rfl) (by rfl) (by kernel_rfl) rfl rfl rfl (by kernel_rfl) ?_
  intro mean mg mb dp un fr gd s h₁ tk Q G hd hu F hQ
  have X := G.X
  revert X; k_fill; intro X
  have T := G.T
  have N : News s.heap s.heap.objs.size h₁ [] := News.nil
  conv =>
    enter [3, 1]
    whnf
  k_steps
  refine call_les F N X (by omega) ?_
  intro h2 tk2 t2 F2 N2
  k_steps
  have hl := les_len x
  refine call_dts F2 N2 X (by omega) ?_
  intro h3 tk3 t3 F3 N3
  exact hQ _ _ _ F3.keep
end Mine
set_option Elab.async false
set_option maxRecDepth 100000
set_option linter.unusedSimpArgs false
namespace Mine
open PySem PySem.W PyProof.Rows PySem.Calls PySem.Spec
set_option maxHeartbeats 4000000
section
variable {prog : Program} {w : World} {A : Around} {E : Value → Shared → Prop} {env : Env} {s : Shared} {h₀ : Heap} {L : Addr} {m : Str → Option Value} {news : List (Addr × Obj)}
theorem dict_str {keys : List (Option Expr)} {values : List Expr} {pos : Pos} {D : List (PyData × PyData)} {Q : Value → Shared → Prop} (F : Fr h₀ L s.heap m) (N : News h₀ L s.heap news) (hbig : sysModules < h₀.objs.size)
    (hD : litPairs keys values = some D) (hs : strKeyed D = true) (hn : (strKeysOf D).Nodup)
    (hall : keys.all (·.isSome) = true) (hl : keys.length = values.length) (h0 : keys ≠ []) (hlen : keys.length ≤ 15)
    (h : ∀ a o h₁ tk, Fr h₀ L h₁ m → News h₀ L h₁ ((a, o) :: news) → (a == sysModules) = false → TabObj (strKind prog w) PyData.str D o → Q (.ref a) { s with heap := h₁, toks := tk }) :
    wpAny (model prog w) A (eval (.Dict keys values pos) env) Q E s := by
  refine Dict_lits_str hD hs hn hall hl h0 hlen ?_
  intro a o h₁ tk ha ho ht hk
  have hL := F.ns.lt
  have hsz : h₀.objs.size ≤ s.heap.objs.size := Nat.le_of_lt (Nat.lt_of_le_of_lt F.above hL)
  have F1 : Fr h₀ L h₁ m := ⟨F.ns.keeps hk, fun b o' e => hk _ _ (F.keep b o' e), F.above⟩
  refine h a o h₁ tk F1 ?_ ?_ ht
  · intro p hp
    rcases List.mem_cons.mp hp with rfl | hp
    · refine ⟨ho, Nat.ne_of_gt (Nat.lt_of_lt_of_le hL ha), ?_⟩
      show h₀.get? a = none
      cases e : h₀.get? a with
      | none => rfl
      | some o' => exact absurd (Nat.lt_of_lt_of_le (Heap.lt_size e) hsz) (Nat.not_lt.mpr ha)
    · exact ⟨hk _ _ (N p hp).1, (N p hp).2⟩
  · exact beq_false_of_ne (Nat.ne_of_gt (Nat.lt_of_lt_of_le hbig (Nat.le_trans hsz ha)))
theorem tab_of {a : Addr} {o : Obj} {D : List (PyData × PyData)} {h : Heap} (N : News h₀ L h news) (hm : (a, o) ∈ news) (lo : (a == sysModules) = false) (ht : TabObj (strKind prog w) PyData.str D o) : StrTab prog w h a D := by
  obtain ⟨kvs, hd, hf⟩ := ht
  exact ⟨lo, kvs, Heap.dictOf_iff.mpr ⟨o, (N _ hm).1, hd⟩, hf⟩
structure DT (w : World) (a : Addr) (o : Obj) (D : List (PyData × PyData)) : Prop where
  lo : (a == sysModules) = false
  ht : TabObj (strKind PySem.Challenge.rw_st0031_01.prog w) PyData.str D o
theorem notin_yes {c : Nat} {y : Str} {t u : Tok} {Q : Value → Shared → Prop} (h : y.cps.toList.contains c = true) (hQ : Q (.bool false) s) : wpAny (model prog w) A (compareOp .NotIn (.str ⟨#[c]⟩ t) (.str y u)) Q E s := by
  refine notIn_str ?_
  rw [StrLaws.found_one, decide_eq_true (by simpa using h)]
  exact hQ
theorem notin_no {c : Nat} {y : Str} {t u : Tok} {Q : Value → Shared → Prop} (h : y.cps.toList.contains c = false) (hQ : Q (.bool true) s) : wpAny (model prog w) A (compareOp .NotIn (.str ⟨#[c]⟩ t) (.str y u)) Q E s := by
  refine notIn_str ?_
  rw [StrLaws.found_one, decide_eq_false (by simpa using h)]
  exact hQ
end

noncomputable def strV (D : List (PyData × PyData)) : Bool := D.all fun p => match p.2 with | .str y => !(y.length == 0) && decide (y.length ≤ 6) | _ => false
theorem strV_at : ∀ {D : List (PyData × PyData)} {x : Str} {v : PyData}, strV D = true → lookup (.str x) D = some v → ∃ y, v = .str y ∧ y.length ≠ 0 ∧ y.length ≤ 6 := by
  intro D x v h e
  induction D with
  | nil => cases e
  | cons p D ih =>
    obtain ⟨a, b⟩ := p
    unfold strV at h
    rw [List.all_cons, Bool.and_eq_true] at h
    unfold PySem.Spec.lookup at e
    split at e
    · cases e
      have h1 := h.1
      cases v with
      | str y => exact ⟨y, rfl, by simpa using h1⟩
      | _ => cases h1
    · exact ih h.2 e
section
variable {prog : Program} {w : World} {A : Around} {E : Value → Shared → Prop} {s : Shared} {d : Addr} {D : List (PyData × PyData)}
theorem get_str {x : Str} {t : Tok} {Q : Value → Shared → Prop} (T : StrTab prog w s.heap d D) (hD : strV D = true)
    (h0 : lookup (.str x) D = none → Q .none { s with toks := s.toks + 1 }) (h1 : ∀ y t', lookup (.str x) D = some (.str y) → y.length ≠ 0 ∧ y.length ≤ 6 → Q (.str y t') { s with toks := s.toks + 1 }) :
    wpAny (model prog w) A (call (.builtin "dict.get") [.ref d, .str x t]) Q E s := by
  refine call_get1_strTab T fun v hv => ?_
  cases e : lookup (.str x) D with
  | none =>
    rw [e] at hv
    have hv2 := PyProof.V.Flat.none_inv hv
    subst hv2
    exact h0 e
  | some v' =>
    rw [e] at hv
    obtain ⟨y, rfl, hy⟩ := strV_at hD e
    obtain ⟨t', rfl⟩ := PyProof.V.Flat.str_inv hv
    exact h1 _ _ e hy
theorem truthy_yes {y : Str} {t : Tok} {Q : Bool → Shared → Prop} (h : y.length ≠ 0 ∧ y.length ≤ 6) (hQ : Q true { s with toks := s.toks + 1 + 1 }) : wpAny (model prog w) A (truthy (.str y t)) Q E s := by
  refine SBL.truthy (by omega) ?_
  rw [show ((y.length : Int) != 0) = true by simp; omega]
  exact hQ
theorem item_strsX {value slice : PySem.Expr} {l : Addr} {vs : List Value} {ys : List Str} {k : Int} {u : Tok} {Q : Value → Shared → Prop} (hl : s.heap.IsList l vs.toArray) (hi : StrsAre vs ys) (h0 : 0 ≤ k) (hk : k < ys.length) (hk2 : k < 2 ^ 63)
    (h : ∀ t, Q (.str (ys.getD k.toNat Str.empty) t) s)
    (hs : subscripted slice false (.ref l) (.int k u) = operate [.ref l, .int k u] (getItem (.ref l) (.int k u)) := by with_unfolding_all rfl) :
    wpAny (model prog w) A (subscriptTail value slice (.ref l) (.int k u)) Q E s := by
  have hlt : k.toNat < ys.length := by omega
  have e : ys[k.toNat]? = some (ys.getD k.toNat Str.empty) := by simp [List.getD, hlt]
  obtain ⟨t, ht⟩ := hi.at e
  exact tail_any hl.typeIs slot_list_getitem.lookup (wpAny_getItem_list hl h0 hk2 (by simpa using ht) (h t)) hs
theorem item_str {value slice : Expr} {x : Str} {t : Tok} {Q : Value → Shared → Prop} (T : StrTab prog w s.heap d D) (hD : strV D = true) (hl : (lookup (.str x) D).isSome = true)
    (h1 : ∀ y t', lookup (.str x) D = some (.str y) → Q (.str y t') { s with toks := s.toks + 1 })
    (hs : subscripted slice false (.ref d) (.str x t) = operate [.ref d, .str x t] (getItem (.ref d) (.str x t)) := by with_unfolding_all rfl) (hg : ∀ r, letTemporaryGo value (.ref d) r = pure () := by intro _; with_unfolding_all rfl) :
    wpAny (model prog w) A (subscriptTail value slice (.ref d) (.str x t)) Q E s := by
  refine item_strTab_isSome T hl (fun v hv => ?_) hs hg
  cases e : lookup (.str x) D with
  | none => rw [e] at hl; cases hl
  | some v' =>
    rw [e] at hv
    obtain ⟨y, rfl, hy⟩ := strV_at hD e
    obtain ⟨t', rfl⟩ := PyProof.V.Flat.str_inv hv
    exact h1 _ _ e
end
theorem pite_t {b : Bool} {p q : Prop} (hb : b = true) (h : p) : if b = true then p else q := by rw [if_pos hb]; exact h
theorem pite_f {b : Bool} {p q : Prop} (hb : ¬ (b = true)) (h : q) : if b = true then p else q := by rw [if_neg hb]; exact h
theorem ite_t {c : Prop} [Decidable c] {α : Type} {prog : Program} {w : World} {A : Around} {Q : α → Shared → Prop} {E : Value → Shared → Prop} {s : Shared} {x y : Sem α} (hc : c) (h : wpAny (model prog w) A x Q E s) : wpAny (model prog w) A (if c then x else y) Q E s := by rw [if_pos hc]; exact h
theorem ite_f {c : Prop} [Decidable c] {α : Type} {prog : Program} {w : World} {A : Around} {Q : α → Shared → Prop} {E : Value → Shared → Prop} {s : Shared} {x y : Sem α} (hc : ¬ c) (h : wpAny (model prog w) A y Q E s) : wpAny (model prog w) A (if c then x else y) Q E s := by rw [if_neg hc]; exact h
noncomputable def nL : List Str := [Str.ofString "&<>", Str.ofString "&<>\"\x0d\n\t", Str.ofString "&>\"", Str.ofString "&<>\x0d", Str.ofString "&<\"\x0d\n\t"]
theorem nL_are (a b c d e : Tok) : StrsAre [.str (Str.ofString "&<>") a, .str (Str.ofString "&<>\"\x0d\n\t") b, .str (Str.ofString "&>\"") c, .str (Str.ofString "&<>\x0d") d, .str (Str.ofString "&<\"\x0d\n\t") e] nL := .cons _ _ (.cons _ _ (.cons _ _ (.cons _ _ (.cons _ _ .nil))))
noncomputable def sD (x y : String) : PyData × PyData := (.str (Str.ofString x), .str (Str.ofString y))
noncomputable def kI (k : Int) : Nat := if k = 0 then 0 else if k = 1 then 1 else if k = 2 then 2 else if k = 3 then 3 else 4
noncomputable def dN : List (PyData × PyData) := [sD "&" "&amp;", sD "<" "&lt;", sD ">" "&gt;", sD "\"" "&quot;"]
noncomputable def dA : List (PyData × PyData) := [sD "\x0d" "&#13;", sD "\n" "&#10;", sD "\t" "&#09;"]
noncomputable def dB : List (PyData × PyData) := [sD "\x0d" "&#xD;", sD "\n" "&#xA;", sD "\t" "&#x9;"]
noncomputable def nmOK (k : Int) (c : Nat) : Bool := match lookup (.str ⟨#[c]⟩) (if k = 1 then dA else dB) with
  | some (.str y) => decide (write k ⟨#[c]⟩ = y)
  | none => (match lookup (.str ⟨#[c]⟩) dN with | some (.str y) => decide (write k ⟨#[c]⟩ = y) | _ => false)
  | _ => false
theorem nm_all : ∀ k ∈ ([0, 1, 2, 3, 4] : List Int), ∀ c ∈ (nL.getD k.toNat Str.empty).cps.toList, nmOK k c = true := by decide +kernel
theorem k_mem {k : Int} (h0 : 0 ≤ k) (h5 : k < 5) : k ∈ ([0, 1, 2, 3, 4] : List Int) := by
  simp only [List.mem_cons, List.not_mem_nil, or_false]; omega
theorem nm_ok {k : Int} {c : Nat} (h0 : 0 ≤ k) (h5 : k < 5) (hc : (nL.getD k.toNat Str.empty).cps.toList.contains c = true) : nmOK k c = true :=
  nm_all k (k_mem h0 h5) c (by simpa using hc)
theorem nm_is {k : Int} {c : Nat} {D : List (PyData × PyData)} (h0 : 0 ≤ k) (h5 : k < 5) (hc : (nL.getD k.toNat Str.empty).cps.toList.contains c = true)
    (hD : (if k = 1 then dA else dB) = D) (hn : lookup (.str ⟨#[c]⟩) D = none) : (lookup (.str ⟨#[c]⟩) dN).isSome = true := by
  have h := nm_ok h0 h5 hc
  unfold nmOK at h
  rw [hD, hn] at h
  dsimp only at h
  cases e : lookup (.str ⟨#[c]⟩) dN with
  | none => rw [e] at h; cases h
  | some _ => rfl
theorem nm_n {k : Int} {c : Nat} {y : Str} {D : List (PyData × PyData)} (h0 : 0 ≤ k) (h5 : k < 5) (hc : (nL.getD k.toNat Str.empty).cps.toList.contains c = true)
    (hD : (if k = 1 then dA else dB) = D) (hn : lookup (.str ⟨#[c]⟩) D = none) (hy : lookup (.str ⟨#[c]⟩) dN = some (.str y)) : write k ⟨#[c]⟩ = y := by
  have h := nm_ok h0 h5 hc
  unfold nmOK at h
  rw [hD, hn] at h
  dsimp only at h
  rw [hy] at h
  exact of_decide_eq_true h
theorem nm_s {k : Int} {c : Nat} {y : Str} {D : List (PyData × PyData)} (h0 : 0 ≤ k) (h5 : k < 5) (hc : (nL.getD k.toNat Str.empty).cps.toList.contains c = true)
    (hD : (if k = 1 then dA else dB) = D) (hn : lookup (.str ⟨#[c]⟩) D = some (.str y)) : write k ⟨#[c]⟩ = y := by
  have h := nm_ok h0 h5 hc
  unfold nmOK at h
  rw [hD, hn] at h
  exact of_decide_eq_true h
theorem nm_free : ∀ k ∈ ([0, 1, 2, 3, 4] : List Int), ((eL (kI k)).all fun p => (nL.getD k.toNat Str.empty).cps.toList.contains p.1) = true := by decide +kernel
theorem lk_free {c : Nat} : ∀ {l : List (Nat × List Nat)}, (∀ p ∈ l, p.1 ≠ c) → l.lookup c = none
  | [], _ => rfl
  | (a, b) :: l, h => by
    have h1 : (c == a) = false := by simpa using fun e => h _ (List.mem_cons_self ..) e.symm
    rw [List.lookup_cons, h1]
    exact lk_free fun p hp => h p (List.mem_cons_of_mem _ hp)
theorem nm_out {k : Int} {c : Nat} (h0 : 0 ≤ k) (h5 : k < 5) (hc : (nL.getD k.toNat Str.empty).cps.toList.contains c = false) : write k ⟨#[c]⟩ = ⟨#[c]⟩ := by
  have e : (eL (kI k)).lookup c = none := lk_free fun p hp e => by
    have h := List.all_eq_true.mp (nm_free k (k_mem h0 h5)) p hp
    rw [e, hc] at h
    cases h
  show (⟨(([c] : List Nat).flatMap (es (eL (kI k)))).toArray⟩ : Str) = _
  rw [List.flatMap_cons, List.flatMap_nil, List.append_nil]
  unfold es
  rw [e]
local macro_rules | `(tactic| walk_at "truthy str") => `(tactic| (k_here; refine truthy_yes (by with_reducible assumption) ?_))
local macro_rules | `(tactic| walk_at "ite") => `(tactic| (k_here; first | refine pite_t rfl ?_ | refine pite_f (by decide) ?_))
local macro_rules | `(tactic| walk_at "eval Dict") => `(tactic| (k_here; (rename Fr _ _ _ _ => F'); (rename News _ _ _ _ => N'); (refine' dict_str F' N' (modules_low (Top.nolimit (by with_reducible assumption))) (by with_unfolding_all rfl) (by with_unfolding_all rfl) ?nd (by with_unfolding_all rfl) (by with_unfolding_all rfl) (List.cons_ne_nil _ _) (by with_unfolding_all decide) ?_); (case nd => decide +kernel); clear F' N'; intro a7 o7 h7 tk7 F7 N7 lo7 ht7; (have dt7 := DT.mk (w := _) lo7 ht7); clear lo7 ht7))
local macro_rules | `(tactic| walk_at "exec Assign cons Dict") => `(tactic| (k_here; refine wpAny_Assign_Name ?_ (by with_unfolding_all rfl)))
local macro_rules | `(tactic| walk_at "compareOp NotIn str str") => `(tactic| (k_here; first | refine notin_yes (by with_reducible assumption) ?_ | refine notin_no (by with_reducible assumption) ?_))
local macro_rules | `(tactic| walk_at "subscriptTail") => `(tactic| (k_here; (with_reducible show wpAny _ _ (subscriptTail _ _ (Value.ref _) (Value.int _ _)) _ _ _); ((rename News _ _ _ _ => N'); (refine' item_strsX (ys := nL) (News.isList N' (List.Mem.head _)) ?sa (by assumption) ?hk ?hf ?_); (case sa => exact nL_are _ _ _ _ _); (case hk => assumption); (case hf => omega); intro t7)))
local macro_rules | `(tactic| walk_at "getMethod ref") => `(tactic| (k_here; (rename News _ _ _ _ => N'); (rename DT _ _ _ _ => D'); (refine getMethod_strTab_get (tab_of N' (List.Mem.head _) (DT.lo D') (DT.ht D')) ?_)))
local macro_rules | `(tactic| walk_at "call builtin:dict.get") => `(tactic| (k_here; (rename News _ _ _ _ => N'); (rename DT _ _ _ _ => D'); (refine get_str (tab_of N' (List.Mem.head _) (DT.lo D') (DT.ht D')) (by decide +kernel) ?_ ?_); intro hn7; rotate_left; intro y7 t7 hy7 hz7; rotate_left))
local macro_rules | `(tactic| walk_at "subscriptTail") => `(tactic| (k_here; (with_reducible show wpAny _ _ (subscriptTail _ _ (Value.ref _) (Value.str _ _)) _ _ _); (rename News _ _ _ _ => N'); (rename DT _ _ _ _ => D'); clear D'; (rename DT _ _ _ _ => D'); (refine item_str (tab_of N' (List.Mem.tail _ (List.Mem.head _)) (DT.lo D') (DT.ht D')) (by decide +kernel) ?_ ?_); rotate_left; intro y7 t7 hy7; rotate_left))
theorem spec_name (w : World) (c : Nat) (k : Int) (hk0 : 0 ≤ k) (hk5 : k < nL.length) (t u : Tok) : Spec w 5 8 210 [.str ⟨#[c]⟩ t, .int k u] (fun t => .str (write k ⟨#[c]⟩) t) := by
  refine spec_of (d := 4) (u := 5) (i := 26) (name := "_law_name") (cd := .ref 209) (binds := [("sign", .str ⟨#[c]⟩ t), ("escape", .int k u)]) (o := o210 w.params) (pm := .str (Str.ofString "law_st0031_01") 2423) rfl rfl (by kernel_rfl) (by rfl) (by kernel_rfl) rfl rfl rfl (by kernel_rfl) ?_
  intro mean mg mb dp un fr gd s h₁ tk Q G hd hu F hQ
  have X := G.X
  revert X; k_fill; intro X
  have T := G.T
  have N : News s.heap s.heap.objs.size h₁ [] := News.nil
  have hk6 : k < 5 := hk5
  conv =>
    enter [3, 1]
    whnf
  cases hc : (nL.getD k.toNat Str.empty).cps.toList.contains c
  · have hw := nm_out hk0 hk6 hc
    rw [hw] at hQ
    k_steps
    rename Fr _ _ _ _ => Fe
    exact hQ _ _ _ Fe.keep
  · k_steps
    · rename (_ : Int) = 1 => e
      rename PySem.Spec.lookup _ _ = none => hn
      subst e
      exact nm_is (k := 1) hk0 hk6 hc rfl hn
    · rename (_ : Int) = 1 => e
      rename PySem.Spec.lookup _ _ = none => hn
      rename PySem.Spec.lookup _ _ = some _ => hy
      rename Fr _ _ _ _ => Fe
      subst e
      have hw := nm_n (k := 1) hk0 hk6 hc rfl hn hy
      rw [hw] at hQ
      exact hQ _ _ _ Fe.keep
    · rename (_ : Int) = 1 => e
      rename PySem.Spec.lookup _ _ = some _ => hy
      rename Fr _ _ _ _ => Fe
      subst e
      have hw := nm_s (k := 1) hk0 hk6 hc rfl hy
      rw [hw] at hQ
      exact hQ _ _ _ Fe.keep
    · rename ¬ (_ : Int) = 1 => e
      rename PySem.Spec.lookup _ _ = none => hn
      exact nm_is hk0 hk6 hc (if_neg e) hn
    · rename ¬ (_ : Int) = 1 => e
      rename PySem.Spec.lookup _ _ = none => hn
      rename PySem.Spec.lookup _ _ = some _ => hy
      rename Fr _ _ _ _ => Fe
      have hw := nm_n hk0 hk6 hc (if_neg e) hn hy
      rw [hw] at hQ
      exact hQ _ _ _ Fe.keep
    · rename ¬ (_ : Int) = 1 => e
      rename PySem.Spec.lookup _ _ = some _ => hy
      rename Fr _ _ _ _ => Fe
      have hw := nm_s hk0 hk6 hc (if_neg e) hy
      rw [hw] at hQ
      exact hQ _ _ _ Fe.keep
end Mine
set_option Elab.async false
set_option maxRecDepth 100000
set_option linter.unusedSimpArgs false
namespace Mine
open PySem PySem.W PyProof.Rows PySem.Calls PySem.Spec
set_option maxHeartbeats 4000000
noncomputable def IsPr (h : Heap) (p : Str × Str) (v : Value) : Prop := ∃ a t u, v = .ref a ∧ IsTup h a #[.str p.1 t, .str p.2 u]
noncomputable def Sgs (h : Heap) (l : Addr) (ps : List (Str × Str)) : Prop := ∃ vs : Array Value, h.IsList l vs ∧ vs.size = ps.length ∧ ∀ (i : Nat) (p : Str × Str), ps[i]? = some p → ∃ v, vs[i]? = some v ∧ IsPr h p v
section
variable {prog : Program} {w : World} {A : Around} {E : Value → Shared → Prop} {s : Shared} {env : Env} {h₀ : Heap} {x y : Str} {body : List Stmt} {Q : Flow → Shared → Prop}
theorem for_pairs {ps : List (Str × Str)} {l : Addr} {iter : PySem.Expr} {px py pt pos : Pos} {x1 : Nat} {m₀ : Str → Option Value} (J : Nat → (Str → Option Value) → Prop)
    (hh : A.handled = none) (S : Sgs h₀ l ps) (hx : env.kindOf x = some .local) (hy : env.kindOf y = some .local)
    (hp : (env.scope.kind == .class || (env.scope.kind == .module && env.locals != env.globals)) = false)
    (F : Fr h₀ env.locals s.heap m₀) (hj : J 0 m₀)
    (he : ∀ Q : Value → Shared → Prop, Q (.ref l) s → wpAny (model prog w) A (eval iter env) Q E s)
    (turn : ∀ (i : Nat) (p : Str × Str) t u m₁ h tk own, ps[i]? = some p → J i m₁ → Fr h₀ env.locals h (fun z => if z = y then some (.str p.2 u) else if z = x then some (.str p.1 t) else m₁ z) → News h₀ env.locals h own →
      wpAny (model prog w) A (execs body env) (TurnEnd h₀ env.locals own (J (i + 1)) { s with heap := h, toks := tk } Q) E { s with heap := h, toks := tk })
    (done : ∀ m₁ h tk, J ps.length m₁ → Fr h₀ env.locals h m₁ → Q .next { s with heap := h, toks := tk })
    (hs : ∀ x, foldedSetIterable iter env x = pure x) (hE : PassesOwn (model prog w) A env E) :
    wpAny (model prog w) A (exec (.For (.Tuple [.Name x px, .Name y py] x1 pt) iter body [] pos) env) Q E s := by
  obtain ⟨vs, hl, hlen, hps⟩ := S
  have up : ∀ {h : Heap} {m : Str → Option Value}, Fr h₀ env.locals h m → h.IsList l vs := fun F => hl.at fun o e => F.keep l o e
  obtain ⟨ol, hol, _⟩ := id hl
  have hll : l < h₀.objs.size := Heap.lt_size hol
  have hIn : h₀.get? s.heap.objs.size = none := next_is_new F
  have hIL : s.heap.objs.size ≠ env.locals := fun e => absurd F.ns.lt (e ▸ Nat.lt_irrefl _)
  refine wpAny_For (he _ (wpAny_pyIter_list (up F) ?_)) hs
  refine codeAny_forLoop_any (R := fun r s' => match r with | .ok f => Q f s' | .error e => cameBackBy (model prog w) A env E e s')
    (fun k s' => ∃ h' tk m' i, s' = { s with heap := h', toks := tk } ∧ h'.IsListIter s.heap.objs.size l i ∧ Fr h₀ env.locals h' m' ∧ J i m' ∧ i ≤ ps.length ∧ k = ps.length + 1 - i) ?_ (ps.length + 1)
    ⟨_, s.toks, m₀, 0, rfl, ⟨_, Heap.get?_push_size _ rfl, rfl, rfl⟩, F.push _, hj, Nat.zero_le _, rfl⟩
  rintro k s' ⟨h', tk, m', i, rfl, hit, F', hJ, hi, rfl⟩
  have keepFr : ∀ {h₁ : Heap}, (∀ b o, b ≠ s.heap.objs.size → h'.get? b = some o → h₁.get? b = some o) → Fr h₀ env.locals h₁ m' := fun hk =>
    ⟨F'.ns.at' fun o e => hk _ o hIL.symm e, fun b o e => hk b o (fun q => by rw [q, hIn] at e; cases e) (F'.keep b o e), F'.above⟩
  by_cases hlt : i < ps.length
  · obtain ⟨v, hv, a, t, u, rfl, ht⟩ := hps i ps[i] (by simp [hlt])
    refine wpAny_pyNext_list_item hit (up F') hv fun h₁ hit₁ hs₁ => ?_
    have F₁ := keepFr fun b o hb e => hs₁.extBut b o hb e
    have ht₁ : IsTup h₁ a #[.str ps[i].1 t, .str ps[i].2 u] := by
      obtain ⟨o, ho, r⟩ := ht
      exact ⟨o, F₁.keep a o ho, r⟩
    refine letGo_listiter hit₁ ?_
    refine assign_Tuple_tuple hh ht₁ rfl rfl fun h₃ hx₃ => ?_
    have up₃ : ∀ b o, h₁.get? b = some o → h₃.get? b = some o := fun b o z => hx₃ b o (Nat.ne_of_lt (Heap.lt_size z)) z
    have F₃ : Fr h₀ env.locals h₃ m' := F₁.keeps up₃
    have hit₃ : h₃.IsListIter s.heap.objs.size l (i + 1) := hit₁.at fun o e => up₃ _ o e
    show wpAny _ A (do holding [Value.str ps[i].2 u] (assign (.Name x px) env (.str ps[i].1 t)); do holding [] (assign (.Name y py) env (.str ps[i].2 u)); pure ()) _ _ _
    refine wpAny_bind (wpAny_holding (wpAny_assign_Name (wpAny_storeName_local hx F₃.ns (fun h₄ hn₄ hs₄ => ?_) hp)))
    replace hs₄ : Heap.SameBut env.locals h₃ h₄ := hs₄
    have F₄ := F₃.set hn₄ hs₄
    refine wpAny_bind (wpAny_holding (wpAny_assign_Name (wpAny_storeName_local hy F₄.ns (fun h₅ hn₅ hs₅ => wpAny_pure ?_) hp)))
    replace hs₅ : Heap.SameBut env.locals h₄ h₅ := hs₅
    have F₅ := F₄.set hn₅ hs₅
    have hit₅ : h₅.IsListIter s.heap.objs.size l (i + 1) := (hit₃.at fun o e => hs₄.extBut _ o hIL e).at fun o e => hs₅.extBut _ o hIL e
    obtain ⟨oI, hoI, rI⟩ := id hit₅
    have N₅ : News h₀ env.locals h₅ [(s.heap.objs.size, oI)] := fun p hp => by
      rw [List.mem_singleton.mp hp]
      exact ⟨hoI, hIL, hIn⟩
    refine wpAny_passesOwn hE ?_
    refine wpAny_mono (turn i ps[i] t u m' h₅ _ _ (by simp [hlt]) hJ F₅ N₅) (fun f s₃ h₆ => ?_) fun _ _ e => e
    have fin : (∃ h' tk' m' news, s₃ = { s with heap := h', toks := tk' } ∧ Fr h₀ env.locals h' m' ∧ News h₀ env.locals h' news ∧ (∀ p ∈ [(s.heap.objs.size, oI)], p ∈ news) ∧ J (i + 1) m') →
        ∃ k', k' < ps.length + 1 - i ∧ ∃ h' tk m' i', s₃ = { s with heap := h', toks := tk } ∧ h'.IsListIter s.heap.objs.size l i' ∧ Fr h₀ env.locals h' m' ∧ J i' m' ∧ i' ≤ ps.length ∧ k' = ps.length + 1 - i' := by
      rintro ⟨h', tk', m', news, rfl, F', N', hs', hJ'⟩
      exact ⟨ps.length + 1 - (i + 1), by omega, h', tk', m', i + 1, rfl, ⟨oI, (N' _ (hs' _ (List.mem_singleton.mpr rfl))).1, rI⟩, F', hJ', hlt, rfl⟩
    cases f with
    | ret v => exact h₆
    | brk => exact h₆
    | next => exact fin h₆
    | cont => exact fin h₆
  · have hin : i = ps.length := by omega
    subst hin
    refine wpAny_pyNext_list_end hh hit (up F') (by simp [hlen]) fun h₁ hk₁ => wpAny_execs_nil ?_
    exact done m' h₁ _ hJ (keepFr fun b o hb e => hk₁ b o hb e)
end
end Mine
set_option Elab.async false
set_option maxRecDepth 100000
set_option linter.unusedSimpArgs false
namespace Mine
open PySem PySem.W PyProof.Rows PySem.Calls PySem.Spec
set_option maxHeartbeats 4000000
/-- as Spec, with a demand on the heap of the call -/
noncomputable def PSpec (w : World) (d u : Nat) (f : Addr) (vs : List Value) (P : Heap → Prop) (R : Tok → Value) : Prop :=
  ∀ (mean : ExcName → Option Value) (mg mb : Str → Option Value) (dp un : Nat) (fr : Option (List Env)) (gd : Option (List Code)) (s : Shared) (Q : Value → Shared → Prop) (E : Value → Shared → Prop), Gd w mean mg mb s.heap → P s.heap →
    dp + d < recursionLimit → un + u < cLine → (∀ t h' tk', Grow s.heap h' → Q (R t) { s with heap := h', toks := tk' }) → wpAny (model PySem.Challenge.rw_st0031_01.prog w) (Ar dp un fr gd) (PySem.call (.ref f) vs) Q E s
theorem pspec_of {w : World} {d u i : Nat} {f : Addr} {vs : List Value} {P : Heap → Prop} {R : Tok → Value} {name : Str} {pm cd : Value} {o : Obj} {binds : List (Str × Value)}
    (ho : (K w.params).lookup f = some o) (hdata : o.data = .func (docDef name (fA i) (fB i) (fS i) pm cd .none)) (hcd : codeIn (K w.params) cd name = true)
    (hbind : bindArgs (docDef name (fA i) (fB i) (fS i) pm cd .none) ⟨vs, []⟩ = pure binds) (hloc : (binds.all fun x => decide ((fS i).names.lookup x.1 = some .local)) = true)
    (hco : (fS i).isCoroutine = false) (hgen : (fS i).isGenerator = false) (hk : (fS i).kind = .function) (hcell : (fS i).names.all (fun x => x.2 != .cell) = true)
    (h : ∀ (mean : ExcName → Option Value) (mg mb : Str → Option Value) (dp un : Nat) (fr : Option (List Env)) (gd : Option (List Code)) (s : Shared) (h₁ : Heap) (tk : Nat) (Q : Value → Shared → Prop), Gd w mean mg mb s.heap → P s.heap → dp + (d + 1) < recursionLimit → un + (u + 3) < cLine →
      Fr s.heap s.heap.objs.size h₁ (fun x => binds.reverse.lookup x) →
      (∀ t h' tk', Grow s.heap h' → Q (R t) { s with heap := h', toks := tk' }) →
      wpAny (model PySem.Challenge.rw_st0031_01.prog w) ((Ar dp un fr gd).deeper (envOf name (fS i) s.heap.objs.size f cd)) (execs (fB i) (envOf name (fS i) s.heap.objs.size f cd))
        (fun fl s' => Q (match fl with | .ret v => v | _ => .none) s') (fun _ _ => False) { s with heap := h₁, toks := tk }) : PSpec w (d + 1) (u + 3) f vs P R := by
  intro mean mg mb dp un fr gd s Q E G hP hd hu hQ
  refine wpAny_call (call_plain_ret (name := name) (params := fA i) (body := fB i) (scope := fS i) (pm := pm) (cd := cd) (doc := .none) (o := o) (binds := binds) (by show dp < _; omega) (G.X _ _ ho) hdata G.T.nolimit (codeRec_of G.X hcd) hbind ?_ ?_ hco hgen hk ?_)
  · exact fun x hx => of_decide_eq_true (List.all_eq_true.mp hloc x hx)
  · intro h₁ F
    exact wpAny_mono (h mean mg mb dp un fr gd s h₁ _ Q G hP hd hu F hQ) (fun fl s' q => q) fun _ _ q => q
  · intro x hx
    have := List.all_eq_true.mp hcell x hx
    simpa using this
section
variable {prog : Program} {w : World} {A : Around} {E : Value → Shared → Prop} {s : Shared} {h₀ h : Heap} {L : Addr} {m : Str → Option Value} {news : List (Addr × Obj)}
theorem use_pspec {mean : ExcName → Option Value} {mg mb : Str → Option Value} {dp un d u : Nat} {fr : Option (List Env)} {gd : Option (List Code)} {env : Env} {Q : Value → Shared → Prop} {f : Addr} {vs : List Value} {P : Heap → Prop}
    {R : Tok → Value} (S : PSpec w d u f vs P R) (hP : P s.heap) (Fh : Fr h₀ L s.heap m) (N : News h₀ L s.heap news) (X : (K w.params).In h₀) (T : Top qv (looseW qv loose) mean mg mb h₀) (hd : dp + 1 + d < recursionLimit) (hu : un + 3 + u < cLine)
    (h : ∀ t h' tk', Fr h₀ L h' m → News h₀ L h' news → Q (R t) { s with heap := h', toks := tk' }) : wpAny (model PySem.Challenge.rw_st0031_01.prog w) ((Ar dp un fr gd).deeper env) (PySem.call (.ref f) vs) Q E s :=
  S mean mg mb (dp + 1) (un + 3) (fr.map (env :: ·)) gd s Q E ⟨X.keeps Fh.keep, T.keeps Fh.keep⟩ hP hd hu fun t h' tk' g => h t h' tk' (g.fr Fh) (g.news N)
theorem Fr.re {x : Str} {v : Value} (F : Fr h₀ L h m) (e : m x = some v) : Fr h₀ L h (fun z => if z = x then some v else m z) := by
  have e' : (fun z => if z = x then some v else m z) = m := by
    funext z
    by_cases hz : z = x
    · rw [if_pos hz, hz, e]
    · rw [if_neg hz]
  rw [e']; exact F
theorem not_of_false {b : Bool} (h : b = false) : ¬ (b = true) := by rw [h]; decide
end
/- what _law_due makes of the meanings -/
noncomputable def nmS (k : Int) (m : Str) : Str := if m.length = 1 then write k m else m
noncomputable def lowS (wp : Bool) (x : Str) : Str := if wp then Txt.lower x else x
noncomputable def crS : Str := Str.ofString "\x0d"
noncomputable def nlS : Str := Str.ofString "\n"
noncomputable def crlfS (k : Int) (sw : Bool) : Str := if sw then write k crS ++ write k nlS else Str.ofString "\x0d\n"
noncomputable def dueStep (k : Int) (sp sw wp : Bool) (st : Str × Bool × Bool) (m : Str) : Str × Bool × Bool :=
  if m = Str.ofString "" then (st.1, if sp then (false, false) else st.2)
  else if m = crS then
    if (sw || write k m == m) = true then (st.1 ++ lowS wp (crlfS k sw), true, true) else (st.1 ++ lowS wp (write k m), false, false)
  else if m = nlS then
    if (sw || write k m == m) = true then (st.1 ++ (if st.2.2 then lowS wp (Str.ofString "") else lowS wp (crlfS k sw)), true, false) else (st.1 ++ lowS wp (write k m), false, false)
  else (st.1 ++ (if m = Str.ofString "." ∧ st.2.1 = true then Str.ofString ".." else nmS k m), false, false)
noncomputable def dueF (k : Int) (sp sw wp : Bool) (ps : List (Str × Str)) : Str × Bool × Bool := ps.foldl (fun st p => dueStep k sp sw wp st p.2) (Str.ofString "", true, false)
end Mine
set_option Elab.async false
set_option maxRecDepth 100000
set_option linter.unusedSimpArgs false
namespace Mine
open PySem PySem.W PyProof.Rows PySem.Calls PySem.Spec
set_option maxHeartbeats 4000000
local macro_rules | `(tactic| walk_at "call builtin:str.index") => `(tactic| (k_here; refine SC.index (by with_reducible assumption) ?_))
local macro_rules | `(tactic| walk_at "ite") => `(tactic| (k_here; first | refine pite_t rfl ?_ | refine pite_f (by decide) ?_ | refine pite_t (by with_reducible assumption) ?_ | refine pite_f (not_of_false (by with_reducible assumption)) ?_))
structure Aft (p : Prop) : Prop where
  h : p
theorem call_lower {prog : Program} {w : World} {A : Around} {E : Value → Shared → Prop} {s : Shared} {x : Str} {t : Tok} {Q : Value → Shared → Prop} (hx : x.length ≤ 1000) (hQ : ∀ t', Q (.str (Txt.lower x) t') { s with toks := s.toks + 1 }) :
    wpAny (model prog w) A (call (.builtin "str.lower") [.str x t]) Q E s := SCL.lower (by omega) fun _ => hQ _
theorem eq_len {x : Str} {n : Nat} {t u : Tok} {prog : Program} {w : World} {A : Around} {E : Value → Shared → Prop} {s : Shared} {Q : Value → Shared → Prop} (h : Q (.bool (decide (n = 1))) s) : wpAny (model prog w) A (compareOp .Eq (.int (n : Int) t) (.int 1 u)) Q E s := by
  refine eq_int ?_
  rw [show (((n : Int) == 1) = decide (n = 1)) from by rw [Bool.eq_iff_iff]; simp; omega]
  exact h
theorem spec_nameS (w : World) (x : Str) (k : Int) (hk0 : 0 ≤ k) (hk5 : k < nL.length) (t u : Tok) (hx : x.length = 1) : Spec w 5 8 210 [.str x t, .int k u] (fun t => .str (write k x) t) := by
  obtain ⟨⟨l⟩⟩ := x
  have hx' : l.length = 1 := hx
  match l, hx' with
  | [c], _ => exact spec_name w c k hk0 hk5 t u
theorem write_len (k : Int) (x : Str) : (write k x).length ≤ 6 * x.length := by
  unfold write
  refine tr_le (es_len ?_) x
  split
  · decide +kernel
  · split
    · decide +kernel
    · split
      · decide +kernel
      · split
        · decide +kernel
        · decide +kernel
local macro_rules | `(tactic| walk_at "call builtin:str.lower") => `(tactic| (k_here; refine call_lower (by omega) ?_; intro t7))
local macro_rules | `(tactic| walk_at "call ref") => `(tactic| (k_here; (with_reducible show wpAny _ _ (call (Value.ref 210) [Value.str _ _, Value.int _ _]) _ _ _); (rename Fr _ _ _ _ => F'); (rename News _ _ _ _ => N'); refine' use_spec (spec_nameS _ _ _ ?e ?f _ _ ?g) F' N' ?a ?b ?c ?d ?_; (case g => first | with_reducible assumption | decide +kernel); (case e => with_reducible assumption); (case f => with_reducible assumption); (case a => with_reducible assumption); (case b => with_reducible assumption); (case c => omega); (case d => omega); intro t7 h7 tk7 F7 N7))
theorem ds_e {k : Int} {sp sw wp fr hf : Bool} {d : Str} : dueStep k sp sw wp (d, fr, hf) (Str.ofString "") = (d, if sp then (false, false) else (fr, hf)) := by unfold dueStep; rw [if_pos rfl]
theorem ds_dot {k : Int} {sp sw wp fr hf : Bool} {d : Str} : dueStep k sp sw wp (d, fr, hf) (Str.ofString ".") = (d ++ if fr then Str.ofString ".." else write k (Str.ofString "."), false, false) := by
  unfold dueStep nmS crS nlS
  rw [if_neg (by decide +kernel), if_neg (by decide +kernel), if_neg (by decide +kernel), if_pos (show (Str.ofString ".").length = 1 by decide +kernel)]
  cases fr
  · rw [if_neg (by simp)]; rfl
  · rw [if_pos (by simp)]; rfl
theorem ds_cr_no {k : Int} {sp sw wp fr hf : Bool} {d : Str} (h : (sw || write k (Str.ofString "\x0d") == Str.ofString "\x0d") = false) : dueStep k sp sw wp (d, fr, hf) (Str.ofString "\x0d") = (d ++ lowS wp (write k (Str.ofString "\x0d")), false, false) := by
  unfold dueStep crS nlS
  rw [if_neg (by decide +kernel), if_pos rfl, if_neg (by rw [h]; decide)]
theorem ds_cr_yes {k : Int} {sp sw wp fr hf : Bool} {d : Str} (h : (sw || write k (Str.ofString "\x0d") == Str.ofString "\x0d") = true) : dueStep k sp sw wp (d, fr, hf) (Str.ofString "\x0d") = (d ++ lowS wp (crlfS k sw), true, true) := by
  unfold dueStep crS nlS
  rw [if_neg (by decide +kernel), if_pos rfl, if_pos h]
theorem ds_nl_no {k : Int} {sp sw wp fr hf : Bool} {d : Str} (h : (sw || write k (Str.ofString "\n") == Str.ofString "\n") = false) : dueStep k sp sw wp (d, fr, hf) (Str.ofString "\n") = (d ++ lowS wp (write k (Str.ofString "\n")), false, false) := by
  unfold dueStep crS nlS
  rw [if_neg (by decide +kernel), if_neg (by decide +kernel), if_pos rfl, if_neg (by rw [h]; decide)]
theorem ds_nl_yes {k : Int} {sp sw wp fr hf : Bool} {d : Str} (h : (sw || write k (Str.ofString "\n") == Str.ofString "\n") = true) : dueStep k sp sw wp (d, fr, hf) (Str.ofString "\n") = (d ++ (if hf then lowS wp (Str.ofString "") else lowS wp (crlfS k sw)), true, false) := by
  unfold dueStep crS nlS
  rw [if_neg (by decide +kernel), if_neg (by decide +kernel), if_pos rfl, if_pos h]
theorem ds_gen {k : Int} {sp sw wp fr hf : Bool} {d m : Str} (h0 : m ≠ Str.ofString "") (h1 : m ≠ Str.ofString ".") (h2 : m ≠ Str.ofString "\x0d") (h3 : m ≠ Str.ofString "\n") : dueStep k sp sw wp (d, fr, hf) m = (d ++ nmS k m, false, false) := by
  unfold dueStep crS nlS
  rw [if_neg h0, if_neg h2, if_neg h3, if_neg (fun h => h1 h.1)]
theorem nmS_one {k : Int} {m : Str} (h : m.length = 1) : nmS k m = write k m := if_pos h
theorem nmS_long {k : Int} {m : Str} (h : ¬ m.length = 1) : nmS k m = m := if_neg h
theorem any_dot : ([Str.ofString "\x0d", Str.ofString "\n"].any fun x => x == Str.ofString ".") = false := by decide +kernel
theorem beq_cr : (Str.ofString "\x0d" == Str.ofString "\x0d") = true := by decide +kernel
theorem beq_nc : (Str.ofString "\n" == Str.ofString "\x0d") = false := by decide +kernel
theorem spec_due (w : World) (l : Addr) (ps : List (Str × Str)) (k : Int) (hk0 : 0 ≤ k) (hk5 : k < nL.length) (y : Str) (ip iw is : Nat) (rp rw rs : List Nat)
    (hip : Builtin.Str.occurrences y (Str.ofString "p") 0 y.length 1 = ip :: rp) (hiw : Builtin.Str.occurrences y (Str.ofString "w") 0 y.length 1 = iw :: rw) (his : Builtin.Str.occurrences y (Str.ofString "s") 0 y.length 1 = is :: rs)
    (sp sw wp : Bool) (hsp : decide ((is : Int) < ip) = sp) (hsw : decide ((is : Int) < iw) = sw) (hwp : decide ((iw : Int) < ip) = wp) (hlen : ps.length ≤ 1000) (hm : ∀ p ∈ ps, p.2.length ≤ 6) (t u : Tok) :
    PSpec w 6 11 217 [.ref l, .int k u, .str y t] (fun h => Sgs h l ps) (fun t => .str (dueF k sp sw wp ps).1 t) := by
  refine pspec_of (d := 5) (u := 8) (i := 27) (name := "_law_due") (cd := .ref 216) (binds := [("signs", .ref l), ("escape", .int k u), ("order", .str y t)]) (o := o217 w.params) (pm := .str (Str.ofString "law_st0031_01") 2423) rfl rfl (by kernel_rfl) (by rfl) (by kernel_rfl) rfl rfl rfl (by kernel_rfl) ?_
  intro mean mg mb dp un fr gd s h₁ tk Q G hP hd hu F hQ
  have X := G.X
  revert X; k_fill; intro X
  have T := G.T
  have N : News s.heap s.heap.objs.size h₁ [] := News.nil
  have hk6 : k < 5 := hk5
  conv =>
    enter [3, 1]
    whnf
  refine wpAny_execs_cons ?_
  refine wpAny_mono (Q := fun f s' => Aft (f = .next ∧ ∃ h' tk' t1 t2 t3 news, s' = { s with heap := h', toks := tk' } ∧ Fr s.heap s.heap.objs.size h' (fun z => if z = Str.ofString "prepared" then some (.int ip t1) else if z = Str.ofString "written" then some (.int iw t2) else if z = Str.ofString "sent" then some (.int is t3) else List.lookup z [(Str.ofString "signs", .ref l), (Str.ofString "escape", .int k u), (Str.ofString "order", .str y t)].reverse) ∧ News s.heap s.heap.objs.size h' news)) ?_ ?_ (fun _ _ e => e)
  · k_steps
    rename Fr _ _ _ _ => Fe
    rename News _ _ _ _ => Ne
    exact ⟨⟨by first | rfl | trivial, _, _, _, _, _, _, rfl, Fe, Ne⟩⟩
  rintro f s' ⟨⟨rfl, h2, tk2, t1, t2, t3, news, rfl, F2, N2⟩⟩
  dsimp only
  refine wpAny_execs_cons (wpAny_Assign_Name (eval_cv (c := .str (Str.ofString "")) rfl (stN F2 N2 fun h3 F3 N3 => ?_)) (by rfl))
  refine wpAny_execs_cons (wpAny_Assign_Name (Constant_bool (stN F3 N3 fun h4 F4 N4 => ?_)) (by rfl))
  refine wpAny_execs_cons (wpAny_Assign_Name (Constant_bool (stN F4 N4 fun h5 F5 N5 => ?_)) (by rfl))
  refine wpAny_execs_cons ?_
  clear F F2 F3 F4 N N2 N3 N4
  refine for_pairs (h₀ := s.heap) (ps := ps) (l := l) (fun i m => ∃ d td fr hf, m (Str.ofString "due") = some (.str d td) ∧ m (Str.ofString "fresh") = some (.bool fr) ∧ m (Str.ofString "half") = some (.bool hf)
    ∧ m (Str.ofString "prepared") = some (.int ip t1) ∧ m (Str.ofString "written") = some (.int iw t2) ∧ m (Str.ofString "sent") = some (.int is t3) ∧ m (Str.ofString "escape") = some (.int k u)
    ∧ (d, fr, hf) = dueF k sp sw wp (ps.take i) ∧ d.length ≤ 100 * i)
    rfl hP (by rfl) (by rfl) (by rfl) F5 ⟨_, _, _, _, rfl, rfl, rfl, rfl, rfl, rfl, rfl, rfl, Nat.le_refl _⟩ (fun Q hQ => ld F5 (by rfl) hQ) ?turn ?done (fun _ => rfl) (by passes_own)
  case done =>
    intro m₁ h6 tk6 hJ F6
    obtain ⟨d, td, fr', hf, e1, e2, e3, e4, e5, e6, e7, e8, e9⟩ := hJ
    rw [List.take_length] at e8
    have F7 : Fr s.heap s.heap.objs.size h6 (fun z => if z = Str.ofString "due" then some (.str d td) else m₁ z) := Fr.re F6 e1
    clear F6 F5
    dsimp only
    refine wpAny_execs_cons ?_
    k_steps
    rename Fr _ _ _ _ => Fe
    rw [← e8] at hQ
    exact hQ _ _ _ Fe.keep
  case turn =>
    intro i p t6 u6 m₁ h6 tk6 own hi hJ F6 N6
    obtain ⟨sx, m⟩ := p
    obtain ⟨d, td, fr', hf, e1, e2, e3, e4, e5, e6, e7, e8, e9⟩ := hJ
    dsimp only at F6
    have F7 : Fr s.heap s.heap.objs.size h6 (fun z => if z = Str.ofString "due" then some (.str d td) else if z = Str.ofString "fresh" then some (.bool fr') else if z = Str.ofString "half" then some (.bool hf) else if z = Str.ofString "prepared" then some (.int ip t1)
        else if z = Str.ofString "written" then some (.int iw t2) else if z = Str.ofString "sent" then some (.int is t3) else if z = Str.ofString "escape" then some (.int k u) else if z = Str.ofString "meant" then some (.str m u6) else if z = Str.ofString "spelled" then some (.str sx t6) else m₁ z) :=
      (Fr.re (x := Str.ofString "due") (v := .str d td) (Fr.re (x := Str.ofString "fresh") (v := .bool fr') (Fr.re (x := Str.ofString "half") (v := .bool hf) (Fr.re (x := Str.ofString "prepared") (v := .int ip t1) (Fr.re (x := Str.ofString "written") (v := .int iw t2) (Fr.re (x := Str.ofString "sent") (v := .int is t3) (Fr.re (x := Str.ofString "escape") (v := .int k u) F6 (by exact e7)) (by exact e6)) (by exact e5)) (by exact e4)) (by exact e3)) (by exact e2)) (by exact e1))
    have hlt : i < ps.length := (List.getElem?_eq_some_iff.mp hi).1
    have hml : m.length ≤ 6 := hm _ (List.mem_of_getElem? hi)
    have hst : dueF k sp sw wp (ps.take (i + 1)) = dueStep k sp sw wp (d, fr', hf) m := by
      rw [e8, List.take_add_one, hi]
      unfold dueF
      rw [List.foldl_append]; rfl
    have hd1 : d.length ≤ 100000 := by omega
    clear F6 F5 e8 e1 e2 e3 e4 e5 e6 e7 hip hiw his hi hm hP
    have fin : ∀ (m' : Str → Option Value) (h' : Heap) (tk' : Nat) (news : List (Addr × Obj)) (d' : Str) (td' : Tok) (fr2 hf2 : Bool), Fr s.heap s.heap.objs.size h' m' → News s.heap s.heap.objs.size h' news → (∀ p ∈ own, p ∈ news) →
        m' (Str.ofString "due") = some (.str d' td') → m' (Str.ofString "fresh") = some (.bool fr2) → m' (Str.ofString "half") = some (.bool hf2) → m' (Str.ofString "prepared") = some (.int ip t1) → m' (Str.ofString "written") = some (.int iw t2) → m' (Str.ofString "sent") = some (.int is t3) → m' (Str.ofString "escape") = some (.int k u) →
        dueStep k sp sw wp (d, fr', hf) m = (d', fr2, hf2) → d'.length ≤ d.length + 100 → (∃ h'_1 tk m'_1 news, ({ s with heap := h', toks := tk' } : Shared) = { s with heap := h'_1, toks := tk } ∧ Fr s.heap s.heap.objs.size h'_1 m'_1 ∧ News s.heap s.heap.objs.size h'_1 news ∧ (∀ p ∈ own, p ∈ news) ∧
          ∃ d td fr hf, m'_1 (Str.ofString "due") = some (.str d td) ∧ m'_1 (Str.ofString "fresh") = some (.bool fr) ∧ m'_1 (Str.ofString "half") = some (.bool hf) ∧ m'_1 (Str.ofString "prepared") = some (.int ip t1) ∧ m'_1 (Str.ofString "written") = some (.int iw t2) ∧ m'_1 (Str.ofString "sent") = some (.int is t3) ∧ m'_1 (Str.ofString "escape") = some (.int k u)
            ∧ (d, fr, hf) = dueF k sp sw wp (ps.take (i + 1)) ∧ d.length ≤ 100 * (i + 1)) := by
      intro m' h' tk' news d' td' fr2 hf2 a1 a2 a3 a4 a5 a6 a7 a8 a9 a10 a11 a12
      exact ⟨h', tk', m', news, rfl, a1, a2, a3, d', td', fr2, hf2, a4, a5, a6, a7, a8, a9, a10, by rw [hst, a11], by omega⟩
    refine wpAny_mono (Q := fun f s₂ => Aft ((f = .next ∨ f = .cont) ∧ ∃ h'_1 tk m'_1 news, s₂ = { s with heap := h'_1, toks := tk } ∧ Fr s.heap s.heap.objs.size h'_1 m'_1 ∧ News s.heap s.heap.objs.size h'_1 news ∧ (∀ p ∈ own, p ∈ news) ∧
          ∃ d td fr hf, m'_1 (Str.ofString "due") = some (.str d td) ∧ m'_1 (Str.ofString "fresh") = some (.bool fr) ∧ m'_1 (Str.ofString "half") = some (.bool hf) ∧ m'_1 (Str.ofString "prepared") = some (.int ip t1) ∧ m'_1 (Str.ofString "written") = some (.int iw t2) ∧ m'_1 (Str.ofString "sent") = some (.int is t3) ∧ m'_1 (Str.ofString "escape") = some (.int k u)
            ∧ (d, fr, hf) = dueF k sp sw wp (ps.take (i + 1)) ∧ d.length ≤ 100 * (i + 1))) ?_ ?_ (fun _ _ e => e)
    rotate_left
    · rintro f s₂ ⟨rfl | rfl, h⟩
      · exact h
      · exact h
    clear hst e9 hlt hlen hQ
    have hbr : (write k (Str.ofString "\x0d")).length ≤ 6 := write_len k (Str.ofString "\x0d")
    have hbn : (write k (Str.ofString "\n")).length ≤ 6 := write_len k (Str.ofString "\n")
    have hbL : ∀ x : Str, x.length ≤ 12 → (Txt.lower x).length ≤ 36 := fun x hx => Nat.le_trans (len_lower x) (by omega)
    have hbrn : (write k (Str.ofString "\x0d") ++ write k (Str.ofString "\n")).length ≤ 12 := by rw [Str.length_append]; omega
    have hl1 : (Txt.lower (write k (Str.ofString "\x0d"))).length ≤ 36 := hbL _ (by first | omega | decide +kernel)
    have hl2 : (Txt.lower (write k (Str.ofString "\n"))).length ≤ 36 := hbL _ (by first | omega | decide +kernel)
    have hl3 : (Txt.lower (write k (Str.ofString "\x0d") ++ write k (Str.ofString "\n"))).length ≤ 36 := hbL _ (by first | omega | decide +kernel)
    have hl4 : (Txt.lower (Str.ofString "\x0d\n")).length ≤ 36 := hbL _ (by first | omega | decide +kernel)
    have hl5 : (Txt.lower (Str.ofString "")).length ≤ 36 := hbL _ (by first | omega | decide +kernel)
    have hl6 : (Str.ofString "\x0d\n").length ≤ 36 := by decide +kernel
    have hl7 : (Str.ofString "").length ≤ 36 := by decide +kernel
    have hl8 : (Str.ofString "..").length ≤ 36 := by decide +kernel
    clear hbL
    by_cases hm0 : m = Str.ofString ""
    · subst hm0
      cases sp
      · k_steps
        rename Fr _ _ _ _ => Fe
        rename News _ _ _ _ => Ne
        exact ⟨⟨.inr rfl, fin _ _ _ _ _ _ _ _ Fe Ne (fun _ h => by repeat (first | exact h | refine List.mem_cons_of_mem _ ?_)) rfl rfl rfl rfl rfl rfl rfl ds_e (by omega)⟩⟩
      · k_steps
        rename Fr _ _ _ _ => Fe
        rename News _ _ _ _ => Ne
        exact ⟨⟨.inr rfl, fin _ _ _ _ _ _ _ _ Fe Ne (fun _ h => by repeat (first | exact h | refine List.mem_cons_of_mem _ ?_)) rfl rfl rfl rfl rfl rfl rfl ds_e (by omega)⟩⟩
    have hb0 : (m == Str.ofString "") = false := beq_eq_false_iff_ne.mpr hm0
    by_cases hmd : m = Str.ofString "."
    · subst hmd
      have hwd : (write k (Str.ofString ".")).length ≤ 6 := write_len k (Str.ofString ".")
      cases fr'
      · k_steps
        rename Fr _ _ _ _ => Fe
        rename News _ _ _ _ => Ne
        rw [any_dot] at Fe
        exact ⟨⟨.inl rfl, fin _ _ _ _ _ _ _ _ Fe Ne (fun _ h => by repeat (first | exact h | refine List.mem_cons_of_mem _ ?_)) rfl rfl rfl rfl rfl rfl rfl ds_dot (by rw [Str.length_append]; omega)⟩⟩
      · k_steps
        rename Fr _ _ _ _ => Fe
        rename News _ _ _ _ => Ne
        rw [any_dot] at Fe
        exact ⟨⟨.inl rfl, fin _ _ _ _ _ _ _ _ Fe Ne (fun _ h => by repeat (first | exact h | refine List.mem_cons_of_mem _ ?_)) rfl rfl rfl rfl rfl rfl rfl ds_dot (by rw [Str.length_append]; omega)⟩⟩
    have hb1 : (m == Str.ofString ".") = false := beq_eq_false_iff_ne.mpr hmd
    by_cases hmr : m = Str.ofString "\x0d"
    · subst hmr
      clear hmd hb1 hb0
      cases sw
      · cases hq : (write k (Str.ofString "\x0d") == Str.ofString "\x0d")
        · cases wp
          · k_steps
            rename Fr _ _ _ _ => Fe
            rename News _ _ _ _ => Ne
            rw [hq] at Fe
            exact ⟨⟨.inl rfl, fin _ _ _ _ _ _ _ _ Fe Ne (fun _ h => by repeat (first | exact h | refine List.mem_cons_of_mem _ ?_)) rfl rfl rfl rfl rfl rfl rfl (by refine Eq.trans (ds_cr_no (sw := false) (by first | rfl | (rw [hq]; rfl))) ?_; first | rfl | (unfold lowS crlfS; rfl)) (by rw [Str.length_append]; omega)⟩⟩
          · k_steps
            rename Fr _ _ _ _ => Fe
            rename News _ _ _ _ => Ne
            rw [hq] at Fe
            exact ⟨⟨.inl rfl, fin _ _ _ _ _ _ _ _ Fe Ne (fun _ h => by repeat (first | exact h | refine List.mem_cons_of_mem _ ?_)) rfl rfl rfl rfl rfl rfl rfl (by refine Eq.trans (ds_cr_no (sw := false) (by first | rfl | (rw [hq]; rfl))) ?_; first | rfl | (unfold lowS crlfS; rfl)) (by rw [Str.length_append]; omega)⟩⟩
        · cases wp
          · k_steps
            rename Fr _ _ _ _ => Fe
            rename News _ _ _ _ => Ne
            rw [hq] at Fe
            rw [beq_cr] at Fe
            exact ⟨⟨.inl rfl, fin _ _ _ _ _ _ _ _ Fe Ne (fun _ h => by repeat (first | exact h | refine List.mem_cons_of_mem _ ?_)) rfl rfl rfl rfl rfl rfl rfl (by refine Eq.trans (ds_cr_yes (sw := false) (by first | rfl | (rw [hq]; rfl))) ?_; first | rfl | (unfold lowS crlfS; rfl)) (by rw [Str.length_append]; omega)⟩⟩
          · k_steps
            rename Fr _ _ _ _ => Fe
            rename News _ _ _ _ => Ne
            rw [hq] at Fe
            rw [beq_cr] at Fe
            exact ⟨⟨.inl rfl, fin _ _ _ _ _ _ _ _ Fe Ne (fun _ h => by repeat (first | exact h | refine List.mem_cons_of_mem _ ?_)) rfl rfl rfl rfl rfl rfl rfl (by refine Eq.trans (ds_cr_yes (sw := false) (by first | rfl | (rw [hq]; rfl))) ?_; first | rfl | (unfold lowS crlfS; rfl)) (by rw [Str.length_append]; omega)⟩⟩
      · cases wp
        · k_steps
          rename Fr _ _ _ _ => Fe
          rename News _ _ _ _ => Ne
          rw [hsw] at Fe
          rw [beq_cr] at Fe
          exact ⟨⟨.inl rfl, fin _ _ _ _ _ _ _ _ Fe Ne (fun _ h => by repeat (first | exact h | refine List.mem_cons_of_mem _ ?_)) rfl rfl rfl rfl rfl rfl rfl (by refine Eq.trans (ds_cr_yes (sw := true) (by first | rfl | (rw [hq]; rfl))) ?_; first | rfl | (unfold lowS crlfS; rfl)) (by rw [Str.length_append]; omega)⟩⟩
        · k_steps
          rename Fr _ _ _ _ => Fe
          rename News _ _ _ _ => Ne
          rw [hsw] at Fe
          rw [beq_cr] at Fe
          exact ⟨⟨.inl rfl, fin _ _ _ _ _ _ _ _ Fe Ne (fun _ h => by repeat (first | exact h | refine List.mem_cons_of_mem _ ?_)) rfl rfl rfl rfl rfl rfl rfl (by refine Eq.trans (ds_cr_yes (sw := true) (by first | rfl | (rw [hq]; rfl))) ?_; first | rfl | (unfold lowS crlfS; rfl)) (by rw [Str.length_append]; omega)⟩⟩
    by_cases hmn : m = Str.ofString "\n"
    · subst hmn
      clear hmd hb1 hb0
      cases sw
      · cases hq : (write k (Str.ofString "\n") == Str.ofString "\n")
        · cases wp
          · k_steps
            rename Fr _ _ _ _ => Fe
            rename News _ _ _ _ => Ne
            rw [hq] at Fe
            exact ⟨⟨.inl rfl, fin _ _ _ _ _ _ _ _ Fe Ne (fun _ h => by repeat (first | exact h | refine List.mem_cons_of_mem _ ?_)) rfl rfl rfl rfl rfl rfl rfl (by refine Eq.trans (ds_nl_no (sw := false) (by first | rfl | (rw [hq]; rfl))) ?_; first | rfl | (unfold lowS crlfS; rfl)) (by rw [Str.length_append]; omega)⟩⟩
          · k_steps
            rename Fr _ _ _ _ => Fe
            rename News _ _ _ _ => Ne
            rw [hq] at Fe
            exact ⟨⟨.inl rfl, fin _ _ _ _ _ _ _ _ Fe Ne (fun _ h => by repeat (first | exact h | refine List.mem_cons_of_mem _ ?_)) rfl rfl rfl rfl rfl rfl rfl (by refine Eq.trans (ds_nl_no (sw := false) (by first | rfl | (rw [hq]; rfl))) ?_; first | rfl | (unfold lowS crlfS; rfl)) (by rw [Str.length_append]; omega)⟩⟩
        · cases hf
          · cases wp
            · k_steps
              rename Fr _ _ _ _ => Fe
              rename News _ _ _ _ => Ne
              rw [hq] at Fe
              rw [beq_nc] at Fe
              exact ⟨⟨.inl rfl, fin _ _ _ _ _ _ _ _ Fe Ne (fun _ h => by repeat (first | exact h | refine List.mem_cons_of_mem _ ?_)) rfl rfl rfl rfl rfl rfl rfl (by refine Eq.trans (ds_nl_yes (sw := false) (by first | rfl | (rw [hq]; rfl))) ?_; first | rfl | (unfold lowS crlfS; rfl)) (by rw [Str.length_append]; omega)⟩⟩
            · k_steps
              rename Fr _ _ _ _ => Fe
              rename News _ _ _ _ => Ne
              rw [hq] at Fe
              rw [beq_nc] at Fe
              exact ⟨⟨.inl rfl, fin _ _ _ _ _ _ _ _ Fe Ne (fun _ h => by repeat (first | exact h | refine List.mem_cons_of_mem _ ?_)) rfl rfl rfl rfl rfl rfl rfl (by refine Eq.trans (ds_nl_yes (sw := false) (by first | rfl | (rw [hq]; rfl))) ?_; first | rfl | (unfold lowS crlfS; rfl)) (by rw [Str.length_append]; omega)⟩⟩
          · cases wp
            · k_steps
              rename Fr _ _ _ _ => Fe
              rename News _ _ _ _ => Ne
              rw [hq] at Fe
              rw [beq_nc] at Fe
              exact ⟨⟨.inl rfl, fin _ _ _ _ _ _ _ _ Fe Ne (fun _ h => by repeat (first | exact h | refine List.mem_cons_of_mem _ ?_)) rfl rfl rfl rfl rfl rfl rfl (by refine Eq.trans (ds_nl_yes (sw := false) (by first | rfl | (rw [hq]; rfl))) ?_; first | rfl | (unfold lowS crlfS; rfl)) (by rw [Str.length_append]; omega)⟩⟩
            · k_steps
              rename Fr _ _ _ _ => Fe
              rename News _ _ _ _ => Ne
              rw [hq] at Fe
              rw [beq_nc] at Fe
              exact ⟨⟨.inl rfl, fin _ _ _ _ _ _ _ _ Fe Ne (fun _ h => by repeat (first | exact h | refine List.mem_cons_of_mem _ ?_)) rfl rfl rfl rfl rfl rfl rfl (by refine Eq.trans (ds_nl_yes (sw := false) (by first | rfl | (rw [hq]; rfl))) ?_; first | rfl | (unfold lowS crlfS; rfl)) (by rw [Str.length_append]; omega)⟩⟩
      · cases hf
        · cases wp
          · k_steps
            rename Fr _ _ _ _ => Fe
            rename News _ _ _ _ => Ne
            rw [hsw] at Fe
            rw [beq_nc] at Fe
            exact ⟨⟨.inl rfl, fin _ _ _ _ _ _ _ _ Fe Ne (fun _ h => by repeat (first | exact h | refine List.mem_cons_of_mem _ ?_)) rfl rfl rfl rfl rfl rfl rfl (by refine Eq.trans (ds_nl_yes (sw := true) (by first | rfl | (rw [hq]; rfl))) ?_; first | rfl | (unfold lowS crlfS; rfl)) (by rw [Str.length_append]; omega)⟩⟩
          · k_steps
            rename Fr _ _ _ _ => Fe
            rename News _ _ _ _ => Ne
            rw [hsw] at Fe
            rw [beq_nc] at Fe
            exact ⟨⟨.inl rfl, fin _ _ _ _ _ _ _ _ Fe Ne (fun _ h => by repeat (first | exact h | refine List.mem_cons_of_mem _ ?_)) rfl rfl rfl rfl rfl rfl rfl (by refine Eq.trans (ds_nl_yes (sw := true) (by first | rfl | (rw [hq]; rfl))) ?_; first | rfl | (unfold lowS crlfS; rfl)) (by rw [Str.length_append]; omega)⟩⟩
        · cases wp
          · k_steps
            rename Fr _ _ _ _ => Fe
            rename News _ _ _ _ => Ne
            rw [hsw] at Fe
            rw [beq_nc] at Fe
            exact ⟨⟨.inl rfl, fin _ _ _ _ _ _ _ _ Fe Ne (fun _ h => by repeat (first | exact h | refine List.mem_cons_of_mem _ ?_)) rfl rfl rfl rfl rfl rfl rfl (by refine Eq.trans (ds_nl_yes (sw := true) (by first | rfl | (rw [hq]; rfl))) ?_; first | rfl | (unfold lowS crlfS; rfl)) (by rw [Str.length_append]; omega)⟩⟩
          · k_steps
            rename Fr _ _ _ _ => Fe
            rename News _ _ _ _ => Ne
            rw [hsw] at Fe
            rw [beq_nc] at Fe
            exact ⟨⟨.inl rfl, fin _ _ _ _ _ _ _ _ Fe Ne (fun _ h => by repeat (first | exact h | refine List.mem_cons_of_mem _ ?_)) rfl rfl rfl rfl rfl rfl rfl (by refine Eq.trans (ds_nl_yes (sw := true) (by first | rfl | (rw [hq]; rfl))) ?_; first | rfl | (unfold lowS crlfS; rfl)) (by rw [Str.length_append]; omega)⟩⟩
    have hb2 : ([Str.ofString "\x0d", Str.ofString "\n"].any fun x => x == m) = false := by simp only [List.any_cons, List.any_nil, Bool.or_false, Bool.or_eq_false_iff]; exact ⟨beq_eq_false_iff_ne.mpr (Ne.symm hmr), beq_eq_false_iff_ne.mpr (Ne.symm hmn)⟩
    by_cases hl1 : m.length = 1
    · have hb3 : ((m.length : Int) == 1) = true := by rw [hl1]; rfl
      have hwm : (write k m).length ≤ 6 := Nat.le_trans (write_len k m) (by omega)
      k_steps
      rename Fr _ _ _ _ => Fe
      rename News _ _ _ _ => Ne
      rw [hb2] at Fe
      exact ⟨⟨.inl rfl, fin _ _ _ _ _ _ _ _ Fe Ne (fun _ h => by repeat (first | exact h | refine List.mem_cons_of_mem _ ?_)) rfl rfl rfl rfl rfl rfl rfl ((ds_gen hm0 hmd hmr hmn).trans (by rw [nmS_one hl1])) (by rw [Str.length_append]; omega)⟩⟩
    · have hb3 : ((m.length : Int) == 1) = false := beq_eq_false_iff_ne.mpr (by omega)
      k_steps
      rename Fr _ _ _ _ => Fe
      rename News _ _ _ _ => Ne
      rw [hb2] at Fe
      exact ⟨⟨.inl rfl, fin _ _ _ _ _ _ _ _ Fe Ne (fun _ h => by repeat (first | exact h | refine List.mem_cons_of_mem _ ?_)) rfl rfl rfl rfl rfl rfl rfl ((ds_gen hm0 hmd hmr hmn).trans (by rw [nmS_long hl1])) (by rw [Str.length_append]; omega)⟩⟩
end Mine
set_option Elab.async false
set_option maxRecDepth 100000
set_option linter.unusedSimpArgs false
set_option linter.unusedVariables false
namespace Mine
open PySem PySem.W PyProof.Rows PySem.Calls PySem.Spec
set_option maxHeartbeats 4000000
theorem mono1 {α : Type} {M : Model} {A : Around} {t : Sem α} {Q Q' : α → Shared → Prop} {E : Value → Shared → Prop} {s : Shared} (h : wpAny M A t Q E s) (hQ : ∀ a s, Q a s → Q' a s) : wpAny M A t Q' E s := wpAny_mono h hQ fun _ _ e => e
section
variable {prog : Program} {w : World} {A : Around} {E : Value → Shared → Prop} {s : Shared} {h₀ : Heap} {L : Addr} {m : Str → Option Value} {env : Env}
theorem comp_inv {elt : PySem.Expr} {x : Str} {scope : Scope} {cl : List (Str × Addr)} {S : List (Addr × Obj) → Prop} {P : Nat → Value → Prop} {Fin : List Value → List (Addr × Obj) → Prop} {n : Nat}
    (J : Nat → List Value → List (Addr × Obj) → Prop)
    (turn : ∀ (i : Nat) (ys : List Value) (news : List (Addr × Obj)) v I oI C oC D m₂ h tk (E' : Value → Shared → Prop), i < n → J i ys news → P i v → LCg.NsObj oC m₂ → m₂ x = some v → Fr h₀ L h m → News h₀ L h ((I, oI) :: (C, oC) :: (D, LCg.lst ys) :: news) → LCg.Off3 I C D news → ((@Ne Nat I C) ∧ (@Ne Nat I D) ∧ (@Ne Nat C D)) →
      wpAny (model prog w) A (eval elt (compEnvC scope cl C env)) (LCg.CompEnd h₀ L m { s with heap := h, toks := tk } I oI C oC D (LCg.lst ys) S (fun y news' => J (i + 1) (ys ++ [y]) news')) E' { s with heap := h, toks := tk })
    (fin : ∀ ys news, J n ys news → Fin ys news) : ∀ (k i : Nat) (ys : List Value) (news : List (Addr × Obj)), i + k = n → J i ys news → LCg.CompRest prog w A h₀ L m env elt x scope cl s S P Fin k i ys news
  | 0, i, ys, news, e, hJ => LCg.CompRest.zero (fin _ _ (by rw [← e]; exact hJ))
  | k + 1, i, ys, news, e, hJ => LCg.CompRest.succ fun v I oI C oC D m₂ h tk E' hP ho hm F N off ne =>
    mono1 (turn i ys news v I oI C oC D m₂ h tk E' (by omega) hJ hP ho hm F N off ne) fun y s₂ ⟨h', tk', news', e1, F', N', off', hS, hR⟩ =>
      ⟨h', tk', news', e1, F', N', off', hS, comp_inv J turn fin k (i + 1) (ys ++ [y]) news' (by omega) hR⟩
end
end Mine
set_option Elab.async false
set_option maxRecDepth 100000
set_option linter.unusedSimpArgs false
set_option linter.unusedVariables false
namespace Mine
open PySem PySem.W PyProof.Rows PySem.Calls PySem.Spec
set_option maxHeartbeats 4000000
local macro_rules | `(tactic| walk_at "ite") => `(tactic| (k_here; first | refine pite_t rfl ?_ | refine pite_f (by decide) ?_ | refine pite_t (by with_reducible assumption) ?_ | refine pite_f (not_of_false (by with_reducible assumption)) ?_))
noncomputable def lB (k : Nat) : Stmt := match (fB 28)[k]? with | some x => x | none => default
noncomputable abbrev lE (H : Heap) (fa : Addr) (cd : Value) : Env := envOfC (Str.ofString "law") (fS 28) H.objs.size fa cd
theorem law_1 (w : World) {mean : ExcName → Option Value} {mg mb : Str → Option Value} {H h₁ : Heap} {tk : Nat} {s : Shared} {E : Value → Shared → Prop} {cd : Value} {fa sl : Addr} {on os : Obj}
    (X : (K w.params).In H) (T : Top qv (looseW qv loose) mean mg mb H)
    (F : Fr H H.objs.size h₁ (fun _ => none)) (N : News H H.objs.size h₁ [(H.objs.size + 1 + 1, on), (H.objs.size + 1, os)]) (hon : on.data = .cell none) (hos : os.data = .cell (some (.ref sl))) :
    wpAny (model PySem.Challenge.rw_st0031_01.prog w) (callerA.deeper (lE H fa cd)) (exec (lB 0) (lE H fa cd))
      (fun f s' => Aft (f = .next ∧ ∃ (h' : Heap) (tk' : Nat) (D : Addr) (ys : List Value) (on2 : Obj), s' = { s with heap := h', toks := tk' } ∧ Fr H H.objs.size h' (fun _ => none) ∧ News H H.objs.size h' [(D, W.listOf ys.toArray 0), (H.objs.size + 1 + 1, on2), (H.objs.size + 1, os)] ∧ on2.data = .cell (some (.ref D)) ∧ IntsAre ys [3, 1, 14, 2, 5, 0, 8, 4, 3, 6, 7])) E { s with heap := h₁, toks := tk } := by
  revert X; k_fill; intro X
  conv =>
    enter [3, 1]
    whnf
  k_steps
  rename Fr _ _ _ _ => Fe
  rename News _ _ _ _ => Ne
  rename _ = Data.cell _ => de
  refine ⟨⟨by first | rfl | trivial, _, _, _, [_, _, _, _, _, _, _, _, _, _, _], _, rfl, Fe, Ne, de, ?_⟩⟩
  repeat (first | exact .nil | refine .cons _ _ ?_)
theorem law_2 (w : World) {mean : ExcName → Option Value} {mg mb : Str → Option Value} {H h2 : Heap} {tk2 : Nat} {s : Shared} {E : Value → Shared → Prop} {cd : Value} {fa sl D1 : Addr} {vs ys1 : List Value} {ns : List Int} {on2 os : Obj}
    (X : (K w.params).In H) (T : Top qv (looseW qv loose) mean mg mb H)
    (F2 : Fr H H.objs.size h2 (fun _ => none)) (N2 : News H H.objs.size h2 [(D1, W.listOf ys1.toArray 0), (H.objs.size + 1 + 1, on2), (H.objs.size + 1, os)]) (dn2 : on2.data = .cell (some (.ref D1))) (hos : os.data = .cell (some (.ref sl)))
    (hl : H.IsList sl vs.toArray) (hi : IntsAre vs ns) (h63 : ns.length ≤ 63) (hi1 : IntsAre ys1 [3, 1, 14, 2, 5, 0, 8, 4, 3, 6, 7]) :
    wpAny (model PySem.Challenge.rw_st0031_01.prog w) (callerA.deeper (lE H fa cd)) (exec (lB 1) (lE H fa cd))
      (fun f s' => Aft (f = .next ∧ ∃ (h' : Heap) (tk' : Nat) (D : Addr) (ys : List Value) (on3 : Obj) (ns2 : List Int), s' = { s with heap := h', toks := tk' } ∧ Fr H H.objs.size h' (fun _ => none) ∧ News H H.objs.size h' [(D, LCg.lst ys), (H.objs.size + 1 + 1, on3), (H.objs.size + 1, os)] ∧ on3.data = .cell (some (.ref D)) ∧ IntsAre ys ns2 ∧ ns2.length = 11)) E { s with heap := h2, toks := tk2 } := by
  revert X; k_fill; intro X
  conv =>
    enter [3, 1]
    whnf
  refine wpAny_Assign_Name (LCg.ListComp_U F2 (by rfl) (by decide) (by rfl) (by decide) (by rfl) ?_) (by rfl)
  refine mono1 (Q := fun v s' => Aft (∃ (h' : Heap) (tk' : Nat) (r : Addr) (a1 a2 a3 : Tok), v = .ref r ∧ s' = { s with heap := h', toks := tk' } ∧ Fr H H.objs.size h' (fun _ => none) ∧ News H H.objs.size h' [(D1, W.listOf ys1.toArray 0), (H.objs.size + 1 + 1, on2), (H.objs.size + 1, os)] ∧ IsRange h' r 0 11 1 a1 a2 a3)) ?_ ?_
  · k_steps
    rename Fr _ _ _ _ => Fe
    rename News _ _ _ _ => Ne
    rename IsRange _ _ _ _ _ _ _ _ => Re
    exact ⟨⟨_, _, _, _, _, _, rfl, rfl, Fe, Ne, Re⟩⟩
  rintro v s' ⟨⟨h3, tk3, r, a1, a2, a3, rfl, rfl, F3, N3, hr3⟩⟩
  refine LCg.CompSrc.range rfl F3 N3 hr3 (by decide) (n := 11) (by decide) (by decide) fun g => ?_
  refine comp_inv (n := 11) (J := fun i ys news => news = [(D1, W.listOf ys1.toArray 0), (H.objs.size + 1 + 1, on2), (H.objs.size + 1, os)] ∧ ∃ ns2 : List Int, IntsAre ys ns2 ∧ ns2.length = i) ?turn ?fin 11 0 [] _ rfl ⟨rfl, [], .nil, rfl⟩
  case turn =>
    rintro i ys news v I oI C oC D m₂ h4 tk4 E' hi4 ⟨rfl, ns2, hys, hns⟩ ⟨t4, rfl⟩ ho4 hm4 F4 N4 off4 ⟨ne1, ne2, ne3⟩
    refine mono1 (Q := fun y s' => Aft (∃ (h' : Heap) (tk' : Nat) (z : Int) (tz : Tok), y = .int z tz ∧ s' = { s with heap := h', toks := tk' } ∧ Fr H H.objs.size h' (fun _ => none) ∧ News H H.objs.size h' [(I, oI), (C, oC), (D, LCg.lst ys), (D1, W.listOf ys1.toArray 0), (H.objs.size + 1 + 1, on2), (H.objs.size + 1, os)])) ?_ ?_
    · clear F2 N2 F3 N3 hr3
      k_steps
      rename Fr _ _ _ _ => Fe
      rename News _ _ _ _ => Ne
      exact ⟨⟨_, _, _, _, rfl, rfl, Fe, fun p hp => Ne p (List.mem_cons_of_mem _ hp)⟩⟩
    · rintro y s' ⟨⟨h5, tk5, z, tz, rfl, rfl, F5, N5⟩⟩
      exact ⟨h5, tk5, _, rfl, F5, N5, off4, trivial, rfl, ns2 ++ [z], hys.append (.cons _ _ .nil), by simp [hns]⟩
  case fin =>
    rintro ys news ⟨rfl, ns2, hys, hns⟩
    intro D h6 tk6 F6 N6 off6
    refine mono1 (Q := fun _ s' => Aft (∃ (h' : Heap) (tk' : Nat) (on3 : Obj), s' = { s with heap := h', toks := tk' } ∧ Fr H H.objs.size h' (fun _ => none) ∧ News H H.objs.size h' [(D, LCg.lst ys), (D1, W.listOf ys1.toArray 0), (H.objs.size + 1 + 1, on3), (H.objs.size + 1, os)] ∧ on3.data = .cell (some (.ref D)))) ?_ ?_
    · refine stCN (own := [(D, LCg.lst ys), (D1, W.listOf ys1.toArray 0)]) F6 N6 (by rfl) dn2 ?_ ?_ ?_
      · intro p hp
        rcases List.mem_cons.mp hp with rfl | hp
        · exact fun e => off6.2.1 e.symm
        · rw [List.mem_singleton.mp hp]
          intro e
          have a := (N6 (D1, W.listOf ys1.toArray 0) (.tail _ (.head _))).1
          have b := (N6 (H.objs.size + 1 + 1, on2) (.tail _ (.tail _ (.head _)))).1
          dsimp only at a b e
          rw [e, b] at a
          rw [Option.some.inj a] at dn2
          cases dn2
      · intro p hp
        rw [List.mem_singleton.mp hp]
        exact Nat.ne_of_lt (Nat.lt_succ_self _)
      · intro h' o' Fe Ne de
        exact ⟨⟨_, _, _, rfl, Fe, Ne, de⟩⟩
    · rintro y s' ⟨⟨h7, tk7, on3, rfl, F7, N7, d3⟩⟩
      exact ⟨⟨rfl, _, _, _, _, _, ns2, rfl, F7, fun p hp => N7 p (by rcases List.mem_cons.mp hp with rfl | hp; exact .head _; exact .tail _ (.tail _ hp)), d3, hys, hns⟩⟩
theorem law_3 (w : World) {mean : ExcName → Option Value} {mg mb : Str → Option Value} {H h2 : Heap} {tk2 : Nat} {s : Shared} {E : Value → Shared → Prop} {cd : Value} {fa D : Addr} {ys : List Value} {ns2 : List Int} {on3 os : Obj}
    (X : (K w.params).In H) (T : Top qv (looseW qv loose) mean mg mb H)
    (F : Fr H H.objs.size h2 (fun _ => none)) (N : News H H.objs.size h2 [(D, LCg.lst ys), (H.objs.size + 1 + 1, on3), (H.objs.size + 1, os)]) (d3 : on3.data = .cell (some (.ref D)))
    (hys : IntsAre ys ns2) (hns : ns2.length = 11) :
    wpAny (model PySem.Challenge.rw_st0031_01.prog w) (callerA.deeper (lE H fa cd)) (exec (lB 2) (lE H fa cd))
      (fun f s' => Aft (f = .next ∧ ∃ (h' : Heap) (tk' : Nat) (k : Int) (tz : Tok), s' = { s with heap := h', toks := tk' } ∧ 0 ≤ k ∧ k < 5 ∧ Fr H H.objs.size h' (fun z => if z = Str.ofString "escape" then some (.int k tz) else none) ∧ News H H.objs.size h' [(D, LCg.lst ys), (H.objs.size + 1 + 1, on3), (H.objs.size + 1, os)])) E { s with heap := h2, toks := tk2 } := by
  revert X; k_fill; intro X
  conv =>
    enter [3, 1]
    whnf
  k_steps
  rename Fr _ _ _ _ => Fe
  rename News _ _ _ _ => Ne
  have hr := fmod_rng (ns2.getD 0 0) 5 (by decide)
  exact ⟨⟨by first | rfl | trivial, _, _, _, _, rfl, hr.1, hr.2, Fe, Ne⟩⟩
local macro_rules | `(tactic| walk_at "call ref") => `(tactic| (k_here; (with_reducible show wpAny _ _ (call (Value.ref 196) [Value.int _ _]) _ _ _); (rename Fr _ _ _ _ => F'); (rename News _ _ _ _ => N'); refine' use_gspec (spec_sign _ _ _) F' N' ?a ?b ?c ?d ?_; (case a => assumption); (case b => assumption); (case c => decide); (case d => decide); intro v7 h7 tk7 F7 N7 g7 p7))
theorem intsLen : ∀ {vs : List Value} {ns : List Int}, IntsAre vs ns → vs.length = ns.length := by
  intro vs ns h
  induction h with
  | nil => rfl
  | cons _ _ _ ih => simp [ih]
noncomputable def TupO (o : Obj) (p : Str × Str) : Prop := o.cls = .type "tuple" ∧ ∃ t u n, o.data = .seq #[.str p.1 t, .str p.2 u] n
noncomputable def SgIn (news : List (Addr × Obj)) (ys : List Value) (ps : List (Str × Str)) : Prop := ys.length = ps.length ∧ ∀ (j : Nat) (p : Str × Str), ps[j]? = some p → ∃ a o, ys[j]? = some (.ref a) ∧ (a, o) ∈ news ∧ TupO o p
theorem SgIn.snoc {news : List (Addr × Obj)} {ys : List Value} {ps : List (Str × Str)} {a : Addr} {o : Obj} {p : Str × Str} (S : SgIn news ys ps) (h : TupO o p) : SgIn ((a, o) :: news) (ys ++ [.ref a]) (ps ++ [p]) := by
  refine ⟨by simp [S.1], fun j q hq => ?_⟩
  by_cases hj : j < ps.length
  · rw [List.getElem?_append_left hj] at hq
    obtain ⟨b, ob, h1, h2, h3⟩ := S.2 j q hq
    exact ⟨b, ob, by rw [List.getElem?_append_left (by rw [S.1]; exact hj)]; exact h1, .tail _ h2, h3⟩
  · rw [List.getElem?_append_right (by omega)] at hq
    have h0 : j - ps.length = 0 := by
      cases e : j - ps.length with
      | zero => rfl
      | succ n => rw [e] at hq; simp at hq
    rw [h0] at hq
    have e : p = q := by simpa using hq
    subst e
    exact ⟨a, o, by rw [List.getElem?_append_right (by rw [S.1]; omega), S.1, h0]; rfl, .head _, h⟩
theorem law_4 (w : World) {mean : ExcName → Option Value} {mg mb : Str → Option Value} {H h2 : Heap} {tk2 : Nat} {s : Shared} {E : Value → Shared → Prop} {cd : Value} {fa D : Addr} {ys : List Value} {ns2 : List Int} {on3 os : Obj} {k : Int} {tz : Tok}
    (X : (K w.params).In H) (T : Top qv (looseW qv loose) mean mg mb H)
    (F : Fr H H.objs.size h2 (fun z => if z = Str.ofString "escape" then some (.int k tz) else none)) (N : News H H.objs.size h2 [(D, LCg.lst ys), (H.objs.size + 1 + 1, on3), (H.objs.size + 1, os)]) (d3 : on3.data = .cell (some (.ref D)))
    (hys : IntsAre ys ns2) (hns : ns2.length = 11) :
    wpAny (model PySem.Challenge.rw_st0031_01.prog w) (callerA.deeper (lE H fa cd)) (exec (lB 3) (lE H fa cd))
      (fun f s' => Aft (f = .next ∧ ∃ (h' : Heap) (tk' : Nat) (D2 : Addr) (ys3 : List Value) (ns3 : List Int) (news : List (Addr × Obj)), s' = { s with heap := h', toks := tk' } ∧ ns3.length = 10 ∧ Fr H H.objs.size h' (fun z => if z = Str.ofString "signs" then some (.ref D2) else if z = Str.ofString "escape" then some (.int k tz) else none) ∧ News H H.objs.size h' ((D2, LCg.lst ys3) :: news) ∧ SgIn news ys3 (ns3.map sgnP))) E { s with heap := h2, toks := tk2 } := by
  revert X; k_fill; intro X
  conv =>
    enter [3, 1]
    whnf
  refine LCg.Assign_ListComp_U F rfl (by rfl) (by rfl) (by decide) (by rfl) (by decide) (by rfl) (by rfl) (by rfl) ?_
  refine mono1 (Q := fun v s' => Aft (∃ (h' : Heap) (tk' : Nat) (D' : Addr) (ws : List Value) (ns3 : List Int), v = .ref D' ∧ s' = { s with heap := h', toks := tk' } ∧ Fr H H.objs.size h' (fun z => if z = Str.ofString "escape" then some (.int k tz) else none) ∧ News H H.objs.size h' [(D', W.listOf ws.toArray 0), (D, LCg.lst ys), (H.objs.size + 1 + 1, on3), (H.objs.size + 1, os)] ∧ IntsAre ws ns3 ∧ ns3.length = 10)) ?_ ?_
  · k_steps
    rename Fr _ _ _ _ => Fe
    rename News _ _ _ _ => Ne
    rename _ = ns2.length - 1 => hC
    rename IntsAre _ (List.drop _ _) => hI
    exact ⟨⟨_, _, _, _, _, rfl, rfl, Fe, Ne, hI, by omega⟩⟩
  rintro v s' ⟨⟨h3, tk3, D', ws, ns3, rfl, rfl, F3, N3, hws, hn3⟩⟩
  have hwl : ws.length = 10 := by rw [← hn3]; exact intsLen hws
  refine LCg.CompSrc.ledger rfl F3 N3 (.head _) (by show ws.toArray.size ≤ _; rw [List.size_toArray, hwl]; decide) fun g => ?_
  refine comp_inv (n := ws.toArray.size) (J := fun i ys news => (∀ p ∈ [(D', W.listOf ws.toArray 0)], p ∈ news) ∧ SgIn news ys ((ns3.take i).map sgnP)) ?turn ?fin ws.toArray.size 0 [] _ (by omega) ⟨fun p hp => by rw [List.mem_singleton.mp hp]; exact .head _, rfl, fun j p hp => by simp at hp⟩
  case turn =>
    rintro i ys4 news v I oI C oC D3 m₂ h4 tk4 E' hi4 ⟨hb, hS⟩ hv ho4 hm4 F4 N4 off4 ⟨ne1, ne2, ne3⟩
    have hi5 : i < ns3.length := by rw [hn3]; rw [List.size_toArray, hwl] at hi4; exact hi4
    obtain ⟨t4, hv2⟩ : ∃ t, v = .int (ns3.getD i 0) t := by
      have hg : ∀ {vs : List Value} {ns : List Int}, IntsAre vs ns → ∀ j, j < ns.length → ∃ t, vs[j]? = some (.int (ns.getD j 0) t) := by
        intro vs ns hi
        induction hi with
        | nil => intro j hj; cases hj
        | cons _ _ _ ih =>
          intro j hj
          cases j with
          | zero => exact ⟨_, rfl⟩
          | succ j => obtain ⟨t, e⟩ := ih j (by simpa using hj); exact ⟨t, by simpa using e⟩
      obtain ⟨t, e⟩ := hg hws i hi5
      exact ⟨t, by rw [List.getElem?_toArray, e] at hv; exact (Option.some.inj hv).symm⟩
    subst hv2
    generalize hz : ns3.getD i 0 = z at *
    refine mono1 (Q := fun y s' => Aft (∃ (h' : Heap) (tk' : Nat) (hc : Heap), s' = { s with heap := h', toks := tk' } ∧ Fr H H.objs.size h' (fun z => if z = Str.ofString "escape" then some (.int k tz) else none) ∧ News H H.objs.size h' ((I, oI) :: (C, oC) :: (D3, LCg.lst ys4) :: news) ∧ Fr H H.objs.size hc (fun z => if z = Str.ofString "escape" then some (.int k tz) else none) ∧ News H H.objs.size hc ((I, oI) :: (C, oC) :: (D3, LCg.lst ys4) :: news) ∧ Pair (sgnP z).1 (sgnP z).2 hc h' y)) ?_ ?_
    · clear F N F3 N3 hv
      have F4c := F4
      have N4c := N4
      k_steps
      rename Fr _ _ _ _ => Fe
      rename News _ _ _ _ => Ne
      rename Pair _ _ _ _ _ => p7
      exact ⟨⟨_, _, _, rfl, Fe, Ne, F4, N4, p7⟩⟩
    · rintro y s' ⟨⟨h5, tk5, hc, rfl, F5, N5, Fc, Nc, a, t5, u5, rfl, hna, o5, ho5, hcls, n5, hdat⟩⟩
      have hne : ∀ b ob, hc.get? b = some ob → a ≠ b := fun b ob e q => by rw [← q, hna] at e; cases e
      have hI := hne _ _ (Nc _ (.head _)).1
      have hC := hne _ _ (Nc _ (.tail _ (.head _))).1
      have hD := hne _ _ (Nc _ (.tail _ (.tail _ (.head _)))).1
      have hL : a ≠ H.objs.size := by
        obtain ⟨oL, eL, _⟩ := LCg.ns_obj Fc.ns
        exact hne _ _ eL
      have hH : H.get? a = none := by
        cases q : H.get? a with
        | none => rfl
        | some o => exact absurd rfl (hne _ _ (Fc.keep a o q))
      refine ⟨h5, tk5, (a, o5) :: news, rfl, F5, ?_, ⟨⟨hI, hC, hD⟩, off4⟩, .inr ⟨_, .tail _ (hb _ (.head _)), rfl, _, rfl⟩, fun p hp => .tail _ (hb p hp), ?_⟩
      · intro p hp
        rcases List.mem_cons.mp hp with rfl | hp
        · exact N5 _ (.head _)
        · rcases List.mem_cons.mp hp with rfl | hp
          · exact N5 _ (.tail _ (.head _))
          · rcases List.mem_cons.mp hp with rfl | hp
            · exact N5 _ (.tail _ (.tail _ (.head _)))
            · rcases List.mem_cons.mp hp with rfl | hp
              · exact ⟨ho5, hL, hH⟩
              · exact N5 _ (.tail _ (.tail _ (.tail _ hp)))
      · have e : (ns3.take (i + 1)).map sgnP = (ns3.take i).map sgnP ++ [sgnP z] := by
          rw [List.take_add_one, getD_get (d := 0) hi5, hz, List.map_append]; rfl
        rw [e]
        exact hS.snoc ⟨hcls, t5, u5, n5, hdat⟩
  case fin =>
    rintro ys4 news ⟨hb, hS⟩
    intro D3 h6 tk6 F6 N6 off6
    rw [List.size_toArray, hwl, ← hn3, List.take_length] at hS
    exact ⟨⟨rfl, _, _, _, ys4, ns3, news, rfl, hn3, F6, N6, hS⟩⟩
end Mine
set_option Elab.async false
set_option maxRecDepth 100000
set_option linter.unusedSimpArgs false
set_option linter.unusedVariables false
namespace Mine
open PySem PySem.W PyProof.Rows PySem.Calls PySem.Spec
set_option maxHeartbeats 4000000
local macro_rules | `(tactic| walk_at "ite") => `(tactic| (k_here; first | refine pite_t rfl ?_ | refine pite_f (by decide) ?_ | refine pite_t (by with_reducible assumption) ?_ | refine pite_f (not_of_false (by with_reducible assumption)) ?_))
theorem strs_snoc {y : Str} {t : Tok} : ∀ {vs : List Value} {ys : List Str}, StrsAre vs ys → StrsAre (vs ++ [.str y t]) (ys ++ [y])
  | _, _, .nil => .cons _ _ .nil
  | _, _, .cons _ _ h => .cons _ _ (strs_snoc h)
noncomputable def psN (n : Nat) (ps : List (Str × Str)) : List (Str × Str) := (List.replicate n ps).flatten
theorem SgIn.append {news : List (Addr × Obj)} {ys zs : List Value} {ps qs : List (Str × Str)} (S : SgIn news ys ps) (T : SgIn news zs qs) : SgIn news (ys ++ zs) (ps ++ qs) := by
  refine ⟨by simp [S.1, T.1], fun j q hq => ?_⟩
  by_cases hj : j < ps.length
  · rw [List.getElem?_append_left hj] at hq
    obtain ⟨b, ob, h1, h2⟩ := S.2 j q hq
    exact ⟨b, ob, by rw [List.getElem?_append_left (by rw [S.1]; exact hj)]; exact h1, h2⟩
  · rw [List.getElem?_append_right (by omega)] at hq
    obtain ⟨b, ob, h1, h2⟩ := T.2 _ q hq
    exact ⟨b, ob, by rw [List.getElem?_append_right (by rw [S.1]; omega), S.1]; exact h1, h2⟩
theorem SgIn.mono {news news' : List (Addr × Obj)} {ys : List Value} {ps : List (Str × Str)} (S : SgIn news ys ps) (h : ∀ p ∈ news, p ∈ news') : SgIn news' ys ps :=
  ⟨S.1, fun j p hp => let ⟨a, o, h1, h2, h3⟩ := S.2 j p hp; ⟨a, o, h1, h _ h2, h3⟩⟩
theorem SgIn.rep {news : List (Addr × Obj)} {ys : List Value} {ps : List (Str × Str)} (S : SgIn news ys ps) : ∀ (n : Nat) (acc : Array Value) (qs : List (Str × Str)), SgIn news acc.toList qs → SgIn news (List.foldl (fun x1 x2 => x1 ++ x2) acc (List.replicate n ys.toArray)).toList (qs ++ psN n ps)
  | 0, acc, qs, T => by simpa [psN] using T
  | n + 1, acc, qs, T => by
    have h := SgIn.rep S n (acc ++ ys.toArray) (qs ++ ps) (by simpa using T.append S)
    rw [List.replicate_succ, List.foldl_cons]
    rw [show qs ++ psN (n + 1) ps = (qs ++ ps) ++ psN n ps by unfold psN; rw [List.replicate_succ, List.flatten_cons, List.append_assoc]]
    exact h
theorem SgIn.sgs {news : List (Addr × Obj)} {its : Array Value} {ps : List (Str × Str)} {h h₀ : Heap} {L l : Addr} (S : SgIn news its.toList ps) (N : News h₀ L h news) (hl : h.IsList l its) : Sgs h l ps :=
  ⟨its, hl, by rw [← S.1, Array.length_toList], fun i p hp => by
    obtain ⟨a, o, h1, h2, h3, t, u, n, h4⟩ := S.2 i p hp
    exact ⟨.ref a, by rw [← Array.getElem?_toList]; exact h1, a, t, u, rfl, o, (N _ h2).1, h3, n, h4⟩⟩
theorem rep_items {ys : List Value} {n : Nat} {x : Int} (h : ys.length = 10) (hx : x = (n : Int)) : List.foldl (fun x1 x2 => x1 ++ x2) #[] (List.replicate (if ys.toArray.isEmpty = true then 0 else x.toNat) ys.toArray) = List.foldl (fun x1 x2 => x1 ++ x2) #[] (List.replicate n ys.toArray) := by
  have e : ys.toArray.isEmpty = false := by
    rw [Bool.eq_false_iff]; intro h'
    rw [Array.isEmpty_iff_size_eq_zero, List.size_toArray, h] at h'
    cases h'
  rw [e, hx]; simp
section
variable {prog : Program} {w : World} {A : Around} {E : Value → Shared → Prop} {s : Shared} {h₀ : Heap} {L : Addr} {m : Str → Option Value} {env : Env}
theorem comp_invP {elt : PySem.Expr} {x x₂ : Str} {scope : Scope} {cl : List (Str × Addr)} {its : Array Value} {ps : List (Str × Str)} {Fin : List Value → List (Addr × Obj) → Prop} {news : List (Addr × Obj)} {ax : Addr}
    (S : SgIn news its.toList ps) (hax : LCg.SrcAt h₀ ax its news)
    (turn : ∀ (i : Nat) (ys : List Value) p t u I oI C oC D m₂ h tk (E' : Value → Shared → Prop) (Q : Value → Shared → Prop), ps[i]? = some p → LCg.NsObj oC m₂ → m₂ x = some (.str p.1 t) → m₂ x₂ = some (.str p.2 u) → Fr h₀ L h m → News h₀ L h ((I, oI) :: (C, oC) :: (D, LCg.lst ys) :: news) → LCg.Off3 I C D news → ((@Ne Nat I C) ∧ (@Ne Nat I D) ∧ (@Ne Nat C D)) →
      (∀ h' tk' t', Fr h₀ L h' m → News h₀ L h' ((I, oI) :: (C, oC) :: (D, LCg.lst ys) :: news) → Q (.str p.1 t') { s with heap := h', toks := tk' }) →
      wpAny (model prog w) A (eval elt (compEnvC scope cl C env)) Q E' { s with heap := h, toks := tk })
    (fin : ∀ ys, StrsAre ys (ps.map (·.1)) → Fin ys news) : ∀ (k i : Nat) (ys : List Value), i + k = ps.length → StrsAre ys ((ps.take i).map (·.1)) → LCp.CompRestP prog w A h₀ L m env elt x x₂ scope cl s (LCg.SrcAt h₀ ax its) (fun i v => its[i]? = some v) Fin k i ys news
  | 0, i, ys, e, hJ => LCp.CompRestP.zero (fin _ (by rw [show i = ps.length by omega, List.take_length] at hJ; exact hJ))
  | k + 1, i, ys, e, hJ => LCp.CompRestP.succ fun v hv => by
    have hi : i < ps.length := by omega
    obtain ⟨a, o, h1, h2, h3, t, u, n, h4⟩ := S.2 i ps[i] (by simp [hi])
    have h1' : its[i]? = some (.ref a) := by rw [← Array.getElem?_toList]; exact h1
    rw [h1'] at hv
    refine ⟨a, o, _, _, n, (Option.some.inj hv).symm, h2, h3, h4, fun I oI C oC D m₂ h tk E' ho hm1 hm2 F N off ne => ?_⟩
    refine turn i ys ps[i] t u I oI C oC D m₂ h tk E' _ (by simp [hi]) ho hm1 hm2 F N off ne fun h' tk' t' F' N' => ?_
    refine ⟨h', tk', news, rfl, F', N', off, hax, ?_⟩
    refine comp_invP S hax turn fin k (i + 1) _ (by omega) ?_
    rw [List.take_add_one, List.map_append, show ps[i]? = some ps[i] by simp [hi]]
    exact strs_snoc hJ
end
noncomputable def lBody : List Stmt := match lB 4 with | .For _ _ b _ _ => b | _ => []
noncomputable def lPage : PySem.Expr := match lBody with | .Assign _ (.Call _ (e :: _) _ _) _ :: _ => e | _ => default
local macro_rules | `(tactic| walk_at "binaryOp Mult ref int") => `(tactic| (k_here; (rename Fr _ _ _ _ => F'); (rename News _ _ _ _ => N'); refine' mul_list F' N' ?hl ?lo ?hi ?sz ?_; (case hl => exact (N' _ (by with_reducible assumption)).1); (case lo => omega); (case hi => omega); (case sz => with_reducible assumption); intro h7 F7 N7))
theorem law_comp (w : World) {mean : ExcName → Option Value} {mg mb : Str → Option Value} {H h1 : Heap} {tk1 : Nat} {s : Shared} {E : Value → Shared → Prop} {cd : Value} {fa D2 : Addr} {ys : List Value} {ps : List (Str × Str)} {news : List (Addr × Obj)} {m : Str → Option Value} {nt : Nat} {tt : Tok} {Q : Value → Shared → Prop}
    (X : (K w.params).In H) (T : Top qv (looseW qv loose) mean mg mb H)
    (F : Fr H H.objs.size h1 m) (N : News H H.objs.size h1 news) (hsg : m (Str.ofString "signs") = some (.ref D2)) (htm : m (Str.ofString "times") = some (.int (nt : Int) tt))
    (hD : (D2, LCg.lst ys) ∈ news) (S : SgIn news ys ps) (h10 : ys.length = 10) (hnt : nt ≤ 2)
    (hQ : ∀ D h' tk' zs, Fr H H.objs.size h' m → News H H.objs.size h' ((D, LCg.lst zs) :: news) → StrsAre zs ((psN nt ps).map (·.1)) → Q (.ref D) { s with heap := h', toks := tk' }) :
    wpAny (model PySem.Challenge.rw_st0031_01.prog w) (callerA.deeper (lE H fa cd)) (eval lPage (lE H fa cd)) Q E { s with heap := h1, toks := tk1 } := by
  obtain ⟨m', hm'⟩ : ∃ m', m = fun z => if z = Str.ofString "signs" then some (.ref D2) else if z = Str.ofString "times" then some (.int (nt : Int) tt) else m' z := ⟨m, by
    funext z
    by_cases h1 : z = Str.ofString "signs"
    · rw [if_pos h1, h1, hsg]
    · rw [if_neg h1]
      by_cases h2 : z = Str.ofString "times"
      · rw [if_pos h2, h2, htm]
      · rw [if_neg h2]⟩
  subst hm'
  clear hsg htm
  revert X; k_fill; intro X
  have hsz : ys.toArray.size * ((nt : Int)).toNat ≤ 2 ^ 24 := by rw [List.size_toArray, h10, Int.toNat_natCast]; omega
  conv =>
    enter [3, 1]
    whnf
  refine LCp.ListComp_P F (by rfl) (by decide) (by rfl) (by decide) (by rfl) (by rfl) (by decide) ?_
  refine mono1 (Q := fun v s' => Aft (∃ (h' : Heap) (tk' : Nat) (l : Addr), v = .ref l ∧ s' = { s with heap := h', toks := tk' } ∧ Fr H H.objs.size h' (fun z => if z = Str.ofString "signs" then some (.ref D2) else if z = Str.ofString "times" then some (.int (nt : Int) tt) else m' z) ∧ News H H.objs.size h' ((l, { cls := .type "list", data := .seq (List.foldl (fun x1 x2 => x1 ++ x2) #[] (List.replicate (if ys.toArray.isEmpty = true then 0 else ((nt : Int)).toNat) ys.toArray)) }) :: news))) ?_ ?_
  · k_steps
    rename Fr _ _ _ _ => Fe
    rename News _ _ _ _ => Ne
    exact ⟨⟨_, _, _, rfl, rfl, Fe, Ne⟩⟩
  rintro v s' ⟨⟨h3, tk3, l, rfl, rfl, F3, N3⟩⟩
  rw [rep_items h10 rfl] at N3
  have S2 := SgIn.rep S nt #[] [] ⟨rfl, fun j p hp => by simp at hp⟩
  rw [List.nil_append] at S2
  generalize hits : List.foldl (fun x1 x2 => x1 ++ x2) #[] (List.replicate nt ys.toArray) = its at *
  have hlen : its.size = (psN nt ps).length := by rw [← S2.1, Array.length_toList]
  have hp20 : (psN nt ps).length ≤ 20 := by
    unfold psN
    rw [List.length_flatten]
    simp [← S.1, h10]
    omega
  refine LCp.SrcLP.ledger rfl F3 N3 (.head _) (by rw [hlen]; exact Nat.le_trans hp20 (by decide)) fun g => ?_
  rw [hlen]
  refine comp_invP (ps := psN nt ps) (S2.mono fun p hp => .tail _ hp) (.inr ⟨_, .head _, rfl, _, rfl⟩) ?turn ?fin _ 0 [] (by omega) .nil
  case turn =>
    intro i zs p t u I oI C oC D m₂ h4 tk4 E' Q' hp ho hm1 hm2 F4 N4 off4 ne4 hQ'
    obtain ⟨sx, mx⟩ := p
    dsimp only at hm1 hm2 hQ'
    clear N F N3 F3
    k_steps
    exact hQ' _ _ _ F4 N4
  case fin =>
    intro zs hz
    intro D h6 tk6 F6 N6 off6
    exact hQ D h6 tk6 zs F6 (fun p hp => N6 p (by rcases List.mem_cons.mp hp with rfl | hp; exact .head _; exact .tail _ (.tail _ hp))) hz
end Mine
set_option Elab.async false
set_option maxRecDepth 100000
set_option linter.unusedSimpArgs false
set_option linter.unusedVariables false
namespace Mine
open PySem PySem.W PyProof.Rows PySem.Calls PySem.Spec
set_option maxHeartbeats 4000000
local macro_rules | `(tactic| walk_at "ite") => `(tactic| (k_here; first | refine pite_t rfl ?_ | refine pite_f (by decide) ?_ | refine pite_t (by with_reducible assumption) ?_ | refine pite_f (not_of_false (by with_reducible assumption)) ?_))
theorem m3_tab : (b3Items.all fun x => decide (x.2.length ≤ 6)) = true := by decide +kernel
theorem m3_len (c : Nat) : (m3 c).length ≤ 6 := by
  unfold m3 b3s
  cases e : b3Items.find? fun x => x.1 == (c : Int) with
  | none =>
    refine Nat.le_trans (len_lower _) ?_
    show 3 * 1 ≤ 6
    decide
  | some p => exact of_decide_eq_true (List.all_eq_true.mp m3_tab p (List.mem_of_find?_eq_some e))
theorem prep_len (x : Str) : (prep x).length ≤ 6 * x.length := by
  refine tr_le (fun d => ?_) x
  unfold prC
  cases b1b d
  · show (m3 d).cps.toList.length ≤ 6
    rw [Array.length_toList]; exact m3_len d
  · exact Nat.zero_le _
theorem leL_len2 : ∀ (h : Bool) (l : List Nat), (leL h l).length ≤ 2 * l.length
  | _, [] => Nat.le_refl _
  | h, c :: r => by
    unfold leL
    have a := leL_len2 true r
    have b := leL_len2 false r
    split
    · simp only [List.length_cons]; omega
    · split
      · cases h
        · simp only [List.length_cons, Bool.false_eq_true, if_false]; omega
        · simp only [if_true, List.length_cons]; omega
      · simp only [List.length_cons]; omega
theorem dtL_len : ∀ (h : Bool) (l : List Nat), (dtL h l).length ≤ 2 * l.length
  | _, [] => Nat.le_refl _
  | h, c :: r => by
    unfold dtL
    have a := dtL_len (c == 10) r
    rw [List.length_append, List.length_cons]
    split
    · simp only [List.length_cons, List.length_nil]; omega
    · simp only [List.length_cons, List.length_nil]; omega
theorem quo_len (x : Str) : (quo x).length ≤ 4 * x.length := by
  show ((dtL true (leL false x.cps.toList).toArray.toList).toArray).size ≤ 4 * x.cps.size
  rw [List.size_toArray]
  have a := dtL_len true (leL false x.cps.toList)
  have b := leL_len2 false x.cps.toList
  have c : x.cps.toList.length = x.cps.size := Array.length_toList
  have e : (leL false x.cps.toList).toArray.toList = leL false x.cps.toList := rfl
  rw [e]; omega
noncomputable def pgStep (k : Int) (x : Str) (c : Nat) : Str := if c = 112 then prep x else if c = 119 then write k x else quo x
noncomputable def pgF (k : Int) (l : List Nat) (x : Str) : Str := l.foldl (pgStep k) x
theorem pgStep_len (k : Int) (x : Str) (c : Nat) : (pgStep k x c).length ≤ 6 * x.length := by
  unfold pgStep
  split
  · exact prep_len x
  · split
    · exact write_len k x
    · exact Nat.le_trans (quo_len x) (by omega)
noncomputable def pg0 (n : Nat) (ps : List (Str × Str)) : Str := Txt.join (Str.ofString "") ((psN n ps).map (·.1))
section
variable {prog : Program} {w : World} {A : Around} {E : Value → Shared → Prop} {s : Shared} {env : Env} {h₀ : Heap} {x : Str} {body : List Stmt} {Q : Flow → Shared → Prop}
theorem iter_textN {y : Str} {t : Tok} {m₀ : Str → Option Value} {news : List (Addr × Obj)} (J : Nat → (Str → Option Value) → Prop)
    (hh : A.handled = none) (F : Fr h₀ env.locals s.heap m₀) (N : News h₀ env.locals s.heap news) (hj : J 0 m₀)
    (turn : ∀ i c u m₁ h tk own, y.cps[i]? = some c → J i m₁ → Fr h₀ env.locals h (fun z => if z = x then some (.str ⟨#[c]⟩ u) else m₁ z) → News h₀ env.locals h (own ++ news) →
      wpAny (model prog w) A (execs body env) (TurnEnd h₀ env.locals (own ++ news) (J (i + 1)) { s with heap := h, toks := tk } Q) E { s with heap := h, toks := tk })
    (done : ∀ m₁ h tk, J y.length m₁ → Fr h₀ env.locals h m₁ → News h₀ env.locals h news → Q .next { s with heap := h, toks := tk }) :
    wpAny (model prog w) A (pyIter (.str y t)) (fun it s₂ => LoopAtV prog w A h₀ env x body Q E it s₂) E s := by
  refine wpAny_pyIter_str fun o St hW hst => ?_
  have W := hW A hh
  refine loop_invN (news := news) (fun i m nx => nx = news ∧ J i m) W ?_ ?_ ?_ ?_ hst (F.push _) (N.grown fun _ _ e => Heap.get?_push_of_some _ e) ⟨rfl, hj⟩ ?_ ?_
  · intro hm
    exact absurd F.ns.lt ((List.mem_singleton.mp hm) ▸ Nat.lt_irrefl _)
  · intro b' hb
    rw [List.mem_singleton.mp hb]
    exact next_is_new F
  · intro p hp hI
    exact absurd (Heap.lt_size (N p hp).1) ((List.mem_singleton.mp hI) ▸ Nat.lt_irrefl _)
  · intro p hp hI
    exact absurd (Heap.lt_size (N p hp).1) ((List.mem_singleton.mp hI) ▸ Nat.lt_irrefl _)
  · rintro i v m₁ nx h tk own hi ⟨n, u, hn, rfl⟩ _ hoff ⟨rfl, hp'⟩ F₁ N₁
    refine wpAny_mono (turn i n u m₁ h tk own hn hp' F₁ (fun p hp => N₁ p (List.mem_append.mpr (List.mem_append.mp hp).symm))) (fun f s₂ p => ?_) fun _ _ e => e
    have fin : (∃ h' tk' m' news', s₂ = { s with heap := h', toks := tk' } ∧ Fr h₀ env.locals h' m' ∧ News h₀ env.locals h' news' ∧ (∀ p ∈ own ++ nx, p ∈ news') ∧ J (i + 1) m') → InvEndN h₀ env.locals (fun m n' => n' = nx ∧ J (i + 1) m) own (nx.map (·.1)) { s with heap := h, toks := tk } s₂ := by
      rintro ⟨h', tk', m', news', e, F', N', hs, hJ⟩
      exact ⟨h', tk', m', news', nx, e, F', N', (fun p hp => hs p (List.mem_append_right _ hp)), (fun p hp => hs p (List.mem_append_left _ hp)), rfl, rfl, hJ⟩
    cases f with
    | ret v => exact p
    | brk => exact p
    | next => exact fin p
    | cont => exact fin p
  · rintro m₁ nx h tk ⟨rfl, hp'⟩ F₁ N₁
    exact done m₁ h tk hp' F₁ N₁
end
local macro_rules | `(tactic| walk_at "eval ListComp") => `(tactic| (k_here; (rename Fr _ _ _ _ => F'); (rename News _ _ _ _ => N'); (with_unfolding_all refine' law_comp _ (by with_reducible assumption) (by with_reducible assumption) F' N' (by with_reducible assumption) (by with_reducible assumption) (by with_reducible assumption) (by with_reducible assumption) (by with_reducible assumption) (by with_reducible assumption) ?_); intro D7 h7 tk7 zs7 F7 N7 hz7))
local macro_rules | `(tactic| walk_at "call builtin:str.join") => `(tactic| (k_here; (rename News _ _ _ _ => N'); (refine' join_listW (News.isList N' (List.Mem.head _)) ?hi (by decide +kernel) ?hw ?_); (case hi => assumption); (case hw => with_reducible assumption); intro t7 tk7))
noncomputable def lSt (i : Nat) : Stmt := match lBody[i]? with | some x => x | none => default
theorem law_b1 (w : World) {mean : ExcName → Option Value} {mg mb : Str → Option Value} {H h1 : Heap} {tk1 : Nat} {s : Shared} {E : Value → Shared → Prop} {cd : Value} {fa D2 : Addr} {ys : List Value} {ps : List (Str × Str)} {news : List (Addr × Obj)} {m : Str → Option Value} {nt : Nat} {tt : Tok}
    (X : (K w.params).In H) (T : Top qv (looseW qv loose) mean mg mb H)
    (F : Fr H H.objs.size h1 m) (N : News H H.objs.size h1 news) (hsg : m (Str.ofString "signs") = some (.ref D2)) (htm : m (Str.ofString "times") = some (.int (nt : Int) tt))
    (hD : (D2, LCg.lst ys) ∈ news) (S : SgIn news ys ps) (h10 : ys.length = 10) (hnt : nt ≤ 2) (hw : (((psN nt ps).map (·.1)).map (·.length)).sum + ((psN nt ps).map (·.1)).length ≤ 1048576) :
    wpAny (model PySem.Challenge.rw_st0031_01.prog w) (callerA.deeper (lE H fa cd)) (exec (lSt 0) (lE H fa cd))
      (fun f s' => Aft (f = .next ∧ ∃ (h' : Heap) (tk' : Nat) (tp : Tok) (news' : List (Addr × Obj)), s' = { s with heap := h', toks := tk' } ∧ Fr H H.objs.size h' (fun z => if z = Str.ofString "page" then some (.str (pg0 nt ps) tp) else m z) ∧ News H H.objs.size h' news' ∧ (∀ p ∈ news, p ∈ news'))) E { s with heap := h1, toks := tk1 } := by
  revert X; k_fill; intro X
  conv =>
    enter [3, 1]
    whnf
  refine wpAny_Assign_Name ?_ (by rfl)
  k_steps
  rename Fr _ _ _ _ => Fe
  rename News _ _ _ _ => Ne
  exact ⟨⟨by first | rfl | trivial, _, _, _, _, rfl, Fe, Ne, fun _ h => .tail _ h⟩⟩
local macro_rules | `(tactic| walk_at "call ref") => `(tactic| (k_here; (with_reducible show wpAny _ _ (call (Value.ref 189) [Value.str _ _]) _ _ _); (rename Fr _ _ _ _ => F'); (rename News _ _ _ _ => N'); refine' use_spec (spec_prep _ _ _ ?hb ?h6) F' N' ?a ?b ?c ?d ?_; (case hb => omega); (case h6 => exact fun c _ => m3_len c); (case a => with_reducible assumption); (case b => with_reducible assumption); (case c => decide); (case d => decide); intro t7 h7 tk7 F7 N7))
local macro_rules | `(tactic| walk_at "call ref") => `(tactic| (k_here; (with_reducible show wpAny _ _ (call (Value.ref 203) [Value.str _ _, Value.int _ _]) _ _ _); (rename Fr _ _ _ _ => F'); (rename News _ _ _ _ => N'); refine' use_spec (spec_write _ _ _ _ _ ?hb) F' N' ?a ?b ?c ?d ?_; (case hb => omega); (case a => with_reducible assumption); (case b => with_reducible assumption); (case c => decide); (case d => decide); intro t7 h7 tk7 F7 N7))
local macro_rules | `(tactic| walk_at "call ref") => `(tactic| (k_here; (with_reducible show wpAny _ _ (call (Value.ref 90) [Value.str _ _]) _ _ _); (rename Fr _ _ _ _ => F'); (rename News _ _ _ _ => N'); refine' use_spec (spec_quote _ _ _ ?hb) F' N' ?a ?b ?c ?d ?_; (case hb => omega); (case a => with_reducible assumption); (case b => with_reducible assumption); (case c => decide); (case d => decide); intro t7 h7 tk7 F7 N7))
noncomputable def KeepV (m m' : Str → Option Value) : Prop := m' (Str.ofString "signs") = m (Str.ofString "signs") ∧ m' (Str.ofString "times") = m (Str.ofString "times") ∧ m' (Str.ofString "escape") = m (Str.ofString "escape") ∧ m' (Str.ofString "order") = m (Str.ofString "order")
theorem law_b2 (w : World) {mean : ExcName → Option Value} {mg mb : Str → Option Value} {H h1 : Heap} {tk1 : Nat} {s : Shared} {E : Value → Shared → Prop} {cd : Value} {fa : Addr} {news : List (Addr × Obj)} {m : Str → Option Value} {k : Int} {u t tx : Tok} {y x0 : Str}
    (X : (K w.params).In H) (T : Top qv (looseW qv loose) mean mg mb H)
    (F : Fr H H.objs.size h1 m) (N : News H H.objs.size h1 news) (hpg : m (Str.ofString "page") = some (.str x0 tx)) (hes : m (Str.ofString "escape") = some (.int k u)) (hor : m (Str.ofString "order") = some (.str y t))
    (hx0 : x0.length ≤ 20) (hy3 : y.cps.size = 3)
    (hE : PassesOwn (model PySem.Challenge.rw_st0031_01.prog w) (callerA.deeper (lE H fa cd)) (lE H fa cd) E) :
    wpAny (model PySem.Challenge.rw_st0031_01.prog w) (callerA.deeper (lE H fa cd)) (exec (lSt 1) (lE H fa cd))
      (fun f s' => Aft (f = .next ∧ ∃ (h' : Heap) (tk' : Nat) (tp : Tok) (m' : Str → Option Value), s' = { s with heap := h', toks := tk' } ∧ Fr H H.objs.size h' m' ∧ m' (Str.ofString "page") = some (.str (pgF k y.cps.toList x0) tp) ∧ KeepV m m' ∧ News H H.objs.size h' news)) E { s with heap := h1, toks := tk1 } := by
  revert X; k_fill; intro X
  conv =>
    enter [3, 1]
    whnf
  refine For_invV H (by rfl) (by rfl) ?_ (by intro _; rfl) hE
  refine ldLoc F hor ?_
  refine iter_textN (fun i m' => ∃ x tx, m' (Str.ofString "page") = some (.str x tx) ∧ x = pgF k (y.cps.toList.take i) x0 ∧ x.length ≤ 20 * 6 ^ i ∧ KeepV m m') rfl F N ⟨x0, tx, hpg, by rw [List.take_zero]; rfl, by simpa using hx0, rfl, rfl, rfl, rfl⟩ ?turn ?done
  case done =>
    rintro m₁ h3 tk3 ⟨x, tx', e1, e2, e3, e4⟩ F3 N3
    have hl : y.length = y.cps.toList.length := by rw [Array.length_toList]; rfl
    rw [hl, List.take_length] at e2
    subst e2
    exact ⟨⟨rfl, _, _, _, _, rfl, F3, e1, e4, N3⟩⟩
  case turn =>
    rintro i c uc m₁ h3 tk3 own hc ⟨x, tx', e1, e2, e3, e4⟩ F3 N3
    obtain ⟨e41, e42, e43, e44⟩ := e4
    have F4 : Fr H H.objs.size h3 (fun z => if z = Str.ofString "page" then some (.str x tx') else if z = Str.ofString "hand" then some (.str ⟨#[c]⟩ uc) else if z = Str.ofString "escape" then some (.int k u) else m₁ z) := by
      have e : (fun z => if z = Str.ofString "page" then some (.str x tx') else if z = Str.ofString "hand" then some (.str ⟨#[c]⟩ uc) else if z = Str.ofString "escape" then some (.int k u) else m₁ z) = (fun z => if z = Str.ofString "hand" then some (Value.str ⟨#[c]⟩ uc) else m₁ z) := by
        funext z
        by_cases h1 : z = Str.ofString "page"
        · rw [if_pos h1, h1, e1, if_neg (by decide +kernel)]
        · rw [if_neg h1]
          by_cases h2 : z = Str.ofString "hand"
          · rw [if_pos h2, if_pos h2]
          · rw [if_neg h2, if_neg h2]
            by_cases h3 : z = Str.ofString "escape"
            · rw [if_pos h3, h3, e43, hes]
            · rw [if_neg h3]
      rw [e]; exact F3
    clear F F3 N
    have hi3 : i < 3 := by
      have := (Array.getElem?_eq_some_iff.mp hc).1
      omega
    have hxl : x.length ≤ 720 := Nat.le_trans e3 (by
      have : i = 0 ∨ i = 1 ∨ i = 2 := by omega
      rcases this with rfl | rfl | rfl <;> decide)
    have hnext : pgF k (y.cps.toList.take (i + 1)) x0 = pgStep k x c := by
      have hc' : y.cps.toList[i]? = some c := by rw [Array.getElem?_toList]; exact hc
      rw [List.take_add_one, hc', e2]
      unfold pgF
      rw [List.foldl_append]; rfl
    have hnl : (pgStep k x c).length ≤ 20 * 6 ^ (i + 1) := by
      refine Nat.le_trans (pgStep_len k x c) ?_
      rw [Nat.pow_succ]; omega
    clear e2 e3 hc
    have fin : ∀ (h' : Heap) (tk' : Nat) (z : Str) (tz : Tok) (news' : List (Addr × Obj)), z = pgStep k x c → Fr H H.objs.size h' (fun q => if q = Str.ofString "page" then some (.str z tz) else if q = Str.ofString "page" then some (.str x tx') else if q = Str.ofString "hand" then some (.str ⟨#[c]⟩ uc) else if q = Str.ofString "escape" then some (.int k u) else m₁ q) → News H H.objs.size h' news' → (∀ p ∈ own ++ news, p ∈ news') →
        ∃ h'' tk'' m' news', ({ s with heap := h', toks := tk' } : Shared) = { s with heap := h'', toks := tk'' } ∧ Fr H H.objs.size h'' m' ∧ News H H.objs.size h'' news' ∧ (∀ p ∈ own ++ news, p ∈ news') ∧ ∃ x tx, m' (Str.ofString "page") = some (.str x tx) ∧ x = pgF k (y.cps.toList.take (i + 1)) x0 ∧ x.length ≤ 20 * 6 ^ (i + 1) ∧ KeepV m m' := by
      intro h' tk' z tz news' hz F' N' hs
      subst hz
      refine ⟨h', tk', _, news', rfl, F', N', hs, _, _, rfl, hnext.symm, hnl, ?_, ?_, ?_, ?_⟩
      · exact e41
      · exact e42
      · exact hes.symm
      · exact e44
    refine mono1 (Q := fun f s₂ => Aft (f = .next ∧ ∃ (h' : Heap) (tk' : Nat) (z : Str) (tz : Tok) (news' : List (Addr × Obj)), z = pgStep k x c ∧ s₂ = { s with heap := h', toks := tk' } ∧ Fr H H.objs.size h' (fun q => if q = Str.ofString "page" then some (.str z tz) else if q = Str.ofString "page" then some (.str x tx') else if q = Str.ofString "hand" then some (.str ⟨#[c]⟩ uc) else if q = Str.ofString "escape" then some (.int k u) else m₁ q) ∧ News H H.objs.size h' news' ∧ (∀ p ∈ own ++ news, p ∈ news'))) ?_ ?_
    rotate_left
    · rintro f s₂ ⟨⟨rfl, h5, tk5, z, tz, news', hz, rfl, F5, N5, hs5⟩⟩
      exact fin h5 tk5 z tz news' hz F5 N5 hs5
    clear fin hnl hnext
    have hs20 : s.heap = s.heap := rfl
    by_cases hp : c = 112
    · subst hp
      have hb : ((⟨#[112]⟩ : Str) == Str.ofString "p") = true := by decide +kernel
      k_steps
      rename Fr _ _ _ _ => Fe
      rename News _ _ _ _ => Ne
      exact ⟨⟨by first | rfl | trivial, _, _, _, _, _, (show _ = (if _ then _ else _) from (if_pos rfl).symm), rfl, Fe, Ne, fun _ h => h⟩⟩
    · have hb : ((⟨#[c]⟩ : Str) == Str.ofString "p") = false := beq_eq_false_iff_ne.mpr fun e => hp (by injection e with e; injection e with e; injection e)
      by_cases hw : c = 119
      · subst hw
        have hb2 : ((⟨#[119]⟩ : Str) == Str.ofString "w") = true := by decide +kernel
        k_steps
        rename Fr _ _ _ _ => Fe
        rename News _ _ _ _ => Ne
        exact ⟨⟨by first | rfl | trivial, _, _, _, _, _, (show _ = (if _ then _ else _) from ((if_neg (by decide)).trans (if_pos rfl)).symm), rfl, Fe, Ne, fun _ h => h⟩⟩
      · have hb2 : ((⟨#[c]⟩ : Str) == Str.ofString "w") = false := beq_eq_false_iff_ne.mpr fun e => hw (by injection e with e; injection e with e; injection e)
        k_steps
        rename Fr _ _ _ _ => Fe
        rename News _ _ _ _ => Ne
        exact ⟨⟨by first | rfl | trivial, _, _, _, _, _, (show _ = (if _ then _ else _) from ((if_neg hp).trans (if_neg hw)).symm), rfl, Fe, Ne, fun _ h => h⟩⟩
theorem sgs_rep {news : List (Addr × Obj)} {ys : List Value} {ps : List (Str × Str)} {h h₀ : Heap} {L l : Addr} {nt : Nat}
    (N : News h₀ L h ((l, { cls := .type "list", data := .seq (List.foldl (fun x1 x2 => x1 ++ x2) #[] (List.replicate (if ys.toArray.isEmpty = true then 0 else ((nt : Int)).toNat) ys.toArray)) }) :: news)) (S : SgIn news ys ps) (h10 : ys.length = 10) : Sgs h l (psN nt ps) := by
  rw [rep_items h10 rfl] at N
  have S2 := SgIn.rep S nt #[] [] ⟨rfl, fun j p hp => by simp at hp⟩
  rw [List.nil_append] at S2
  exact SgIn.sgs (S2.mono fun p hp => .tail _ hp) N (News.isList N (.head _))
local macro_rules | `(tactic| walk_at "binaryOp Mult ref int") => `(tactic| (k_here; (rename Fr _ _ _ _ => F'); (rename News _ _ _ _ => N'); refine' mul_list F' N' ?hl ?lo ?hi ?sz ?_; (case hl => exact (N' _ (by with_reducible assumption)).1); (case lo => omega); (case hi => omega); (case sz => with_reducible assumption); intro h7 F7 N7))
local macro_rules | `(tactic| walk_at "call ref") => `(tactic| (k_here; (with_reducible show wpAny _ _ (call (Value.ref 217) _) _ _ _); (rename Fr _ _ _ _ => F'); (rename News _ _ _ _ => N'); refine' use_pspec (spec_due _ _ _ _ ?p1 ?p2 _ _ _ _ _ _ _ ?p3 ?p4 ?p5 _ _ _ ?p6 ?p7 ?p8 ?p9 ?p10 _ _) ?hP F' N' ?a ?b ?c ?d ?_; (case hP => exact sgs_rep N' (by with_reducible assumption) (by with_reducible assumption)); (case p1 => with_reducible assumption); (case p2 => with_reducible assumption); (case p3 => with_reducible assumption); (case p4 => with_reducible assumption); (case p5 => with_reducible assumption); (case p6 => with_reducible assumption); (case p7 => with_reducible assumption); (case p8 => with_reducible assumption); (case p9 => with_reducible assumption); (case p10 => with_reducible assumption); (case a => with_reducible assumption); (case b => with_reducible assumption); (case c => decide); (case d => decide); intro t7 h7 tk7 F7 N7))
theorem law_b3 (w : World) {mean : ExcName → Option Value} {mg mb : Str → Option Value} {H h1 : Heap} {tk1 : Nat} {s : Shared} {E : Value → Shared → Prop} {cd : Value} {fa D2 : Addr} {ys : List Value} {ps : List (Str × Str)} {news : List (Addr × Obj)} {m : Str → Option Value} {nt : Nat} {k : Int} {u t tx tt : Tok} {y x : Str} {ip iw is : Nat} {rp rw rs : List Nat} {sp sw wp : Bool}
    (X : (K w.params).In H) (T : Top qv (looseW qv loose) mean mg mb H)
    (F : Fr H H.objs.size h1 (fun z => if z = Str.ofString "page" then some (.str x tx) else if z = Str.ofString "signs" then some (.ref D2) else if z = Str.ofString "times" then some (.int (nt : Int) tt) else if z = Str.ofString "escape" then some (.int k u) else if z = Str.ofString "order" then some (.str y t) else m z)) (N : News H H.objs.size h1 news)
    (hD : (D2, LCg.lst ys) ∈ news) (S : SgIn news ys ps) (h10 : ys.length = 10) (hnt : nt ≤ 2) (hk0 : 0 ≤ k) (hk5 : k < nL.length)
    (hip : Builtin.Str.occurrences y (Str.ofString "p") 0 y.length 1 = ip :: rp) (hiw : Builtin.Str.occurrences y (Str.ofString "w") 0 y.length 1 = iw :: rw) (his : Builtin.Str.occurrences y (Str.ofString "s") 0 y.length 1 = is :: rs)
    (hsp : decide ((is : Int) < ip) = sp) (hsw : decide ((is : Int) < iw) = sw) (hwp : decide ((iw : Int) < ip) = wp) (hlen : (psN nt ps).length ≤ 1000) (hm : ∀ p ∈ psN nt ps, p.2.length ≤ 6)
    (hne : (x != (dueF k sp sw wp (psN nt ps)).1) = false) :
    wpAny (model PySem.Challenge.rw_st0031_01.prog w) (callerA.deeper (lE H fa cd)) (exec (lSt 2) (lE H fa cd))
      (fun f s' => Aft (f = .next ∧ ∃ (h' : Heap) (tk' : Nat) (news' : List (Addr × Obj)), s' = { s with heap := h', toks := tk' } ∧ Fr H H.objs.size h' (fun z => if z = Str.ofString "page" then some (.str x tx) else if z = Str.ofString "signs" then some (.ref D2) else if z = Str.ofString "times" then some (.int (nt : Int) tt) else if z = Str.ofString "escape" then some (.int k u) else if z = Str.ofString "order" then some (.str y t) else m z) ∧ News H H.objs.size h' news' ∧ (∀ p ∈ news, p ∈ news'))) E { s with heap := h1, toks := tk1 } := by
  have hsz : ys.toArray.size * ((nt : Int)).toNat ≤ 2 ^ 24 := by rw [List.size_toArray, h10, Int.toNat_natCast]; omega
  revert X; k_fill; intro X
  conv =>
    enter [3, 1]
    whnf
  k_steps
  rename Fr _ _ _ _ => Fe
  rename News _ _ _ _ => Ne
  exact ⟨⟨by first | rfl | trivial, _, _, _, rfl, Fe, Ne, fun _ h => .tail _ h⟩⟩
end Mine
set_option Elab.async false
set_option maxRecDepth 100000
set_option linter.unusedSimpArgs false
set_option linter.unusedVariables false
namespace Mine
open PySem PySem.W PyProof.Rows PySem.Calls PySem.Spec
set_option maxHeartbeats 4000000
section
variable {prog : Program} {w : World} {A : Around} {E : Value → Shared → Prop} {s : Shared} {env : Env} {h₀ : Heap} {x y : Str} {body : List Stmt} {Q : Flow → Shared → Prop}
theorem for_led {cs : List (Const × Const)} {vs : List Value} {ts news : List (Addr × Obj)} {l : Addr} {px py pt : Pos} {x1 : Nat} {m₀ : Str → Option Value} (J : Nat → (Str → Option Value) → Prop)
    (hh : A.handled = none) (hl : (l, ({ cls := .type "list", data := .seq vs.toArray } : Obj)) ∈ news) (hi : TupsIn ts vs cs) (hts : ∀ p ∈ ts, p ∈ news) (hlen : vs.length = cs.length)
    (hx : env.kindOf x = some .local) (hy : env.kindOf y = some .local)
    (hp : (env.scope.kind == .class || (env.scope.kind == .module && env.locals != env.globals)) = false)
    (F : Fr h₀ env.locals s.heap m₀) (N : News h₀ env.locals s.heap news) (hj : J 0 m₀)
    (turn : ∀ (i : Nat) (c : Const × Const) t u m₁ h tk own, cs[i]? = some c → J i m₁ → Fr h₀ env.locals h (fun z => if z = y then some (cv c.2 u) else if z = x then some (cv c.1 t) else m₁ z) → News h₀ env.locals h own → (∀ p ∈ news, p ∈ own) →
      wpAny (model prog w) A (execs body env) (TurnEnd h₀ env.locals own (J (i + 1)) { s with heap := h, toks := tk } Q) E { s with heap := h, toks := tk })
    (done : ∀ m₁ h tk own, J cs.length m₁ → Fr h₀ env.locals h m₁ → News h₀ env.locals h own → Q .next { s with heap := h, toks := tk })
    (hE : PassesOwn (model prog w) A env E) :
    wpAny (model prog w) A (pyIter (.ref l)) (fun it s₂ => codeAny (model prog w) A (.forLoop (.Tuple [.Name x px, .Name y py] x1 pt) it body [] env) (fun r s' => match r with | .ok f => Q f s' | .error e => cameBackBy (model prog w) A env E e s') s₂) E s := by
  have up : ∀ {h : Heap} {own : List (Addr × Obj)}, News h₀ env.locals h own → (∀ p ∈ news, p ∈ own) → h.IsList l vs.toArray := fun N hs => News.isList N (hs _ hl)
  have hIn : h₀.get? s.heap.objs.size = none := next_is_new F
  have hIL : s.heap.objs.size ≠ env.locals := fun e => absurd F.ns.lt (e ▸ Nat.lt_irrefl _)
  have hIo : ∀ p ∈ news, p.1 ≠ s.heap.objs.size := fun p hp => Nat.ne_of_lt (Heap.lt_size (N p hp).1)
  refine wpAny_pyIter_list (up N fun _ h => h) ?_
  refine codeAny_forLoop_any (R := fun r s' => match r with | .ok f => Q f s' | .error e => cameBackBy (model prog w) A env E e s')
    (fun k s' => ∃ h' tk m' i, s' = { s with heap := h', toks := tk } ∧ h'.IsListIter s.heap.objs.size l i ∧ Fr h₀ env.locals h' m' ∧ News h₀ env.locals h' news ∧ J i m' ∧ i ≤ cs.length ∧ k = cs.length + 1 - i) ?_ (cs.length + 1)
    ⟨_, s.toks, m₀, 0, rfl, ⟨_, Heap.get?_push_size _ rfl, rfl, rfl⟩, F.push _, N.grown fun _ _ e => Heap.get?_push_of_some _ e, hj, Nat.zero_le _, rfl⟩
  rintro k s' ⟨h', tk, m', i, rfl, hit, F', N', hJ, hi', rfl⟩
  have keepFr : ∀ {h₁ : Heap}, (∀ b o, b ≠ s.heap.objs.size → h'.get? b = some o → h₁.get? b = some o) → Fr h₀ env.locals h₁ m' := fun hk =>
    ⟨F'.ns.at' fun o e => hk _ o hIL.symm e, fun b o e => hk b o (fun q => by rw [q, hIn] at e; cases e) (F'.keep b o e), F'.above⟩
  have keepN : ∀ {h₁ : Heap}, (∀ b o, b ≠ s.heap.objs.size → h'.get? b = some o → h₁.get? b = some o) → News h₀ env.locals h₁ news := fun hk p hp => ⟨hk _ _ (hIo p hp) (N' p hp).1, (N' p hp).2⟩
  by_cases hlt : i < cs.length
  · obtain ⟨a, t, u, hv, hm⟩ := hi.at (j := i) (c := cs[i]) (by simp [hlt])
    refine wpAny_pyNext_list_item hit (up N' fun _ h => h) (x := .ref a) (by simpa using hv) fun h₁ hit₁ hs₁ => ?_
    have k₁ : ∀ b o, b ≠ s.heap.objs.size → h'.get? b = some o → h₁.get? b = some o := fun b o hb e => hs₁.extBut b o hb e
    have F₁ := keepFr k₁
    have N₁ := keepN k₁
    have ht₁ : IsTup h₁ a #[cv cs[i].1 t, cv cs[i].2 u] := ⟨_, (N₁ _ (hts _ hm)).1, rfl, _, rfl⟩
    refine letGo_listiter hit₁ ?_
    refine assign_Tuple_tuple hh ht₁ rfl rfl fun h₃ hx₃ => ?_
    have up₃ : ∀ b o, h₁.get? b = some o → h₃.get? b = some o := fun b o z => hx₃ b o (Nat.ne_of_lt (Heap.lt_size z)) z
    have F₃ : Fr h₀ env.locals h₃ m' := F₁.keeps up₃
    have N₃ : News h₀ env.locals h₃ news := N₁.grown up₃
    have hit₃ : h₃.IsListIter s.heap.objs.size l (i + 1) := hit₁.at fun o e => up₃ _ o e
    show wpAny _ A (do holding [cv cs[i].2 u] (assign (.Name x px) env (cv cs[i].1 t)); do holding [] (assign (.Name y py) env (cv cs[i].2 u)); pure ()) _ _ _
    refine wpAny_bind (wpAny_holding (wpAny_assign_Name (wpAny_storeName_local hx F₃.ns (fun h₄ hn₄ hs₄ => ?_) hp)))
    replace hs₄ : Heap.SameBut env.locals h₃ h₄ := hs₄
    have F₄ := F₃.set hn₄ hs₄
    refine wpAny_bind (wpAny_holding (wpAny_assign_Name (wpAny_storeName_local hy F₄.ns (fun h₅ hn₅ hs₅ => wpAny_pure ?_) hp)))
    replace hs₅ : Heap.SameBut env.locals h₄ h₅ := hs₅
    have F₅ := F₄.set hn₅ hs₅
    have N₅' : News h₀ env.locals h₅ news := (N₃.set hs₄).set hs₅
    have hit₅ : h₅.IsListIter s.heap.objs.size l (i + 1) := (hit₃.at fun o e => hs₄.extBut _ o hIL e).at fun o e => hs₅.extBut _ o hIL e
    obtain ⟨oI, hoI, rI⟩ := id hit₅
    have N₅ : News h₀ env.locals h₅ ((s.heap.objs.size, oI) :: news) := fun p hp => by
      rcases List.mem_cons.mp hp with rfl | hp
      · exact ⟨hoI, hIL, hIn⟩
      · exact N₅' p hp
    refine wpAny_passesOwn hE ?_
    refine wpAny_mono (turn i cs[i] t u m' h₅ _ _ (by simp [hlt]) hJ F₅ N₅ fun p hp => .tail _ hp) (fun f s₃ h₆ => ?_) fun _ _ e => e
    have fin : (∃ h' tk' m' news', s₃ = { s with heap := h', toks := tk' } ∧ Fr h₀ env.locals h' m' ∧ News h₀ env.locals h' news' ∧ (∀ p ∈ (s.heap.objs.size, oI) :: news, p ∈ news') ∧ J (i + 1) m') →
        ∃ k', k' < cs.length + 1 - i ∧ ∃ h' tk m' i', s₃ = { s with heap := h', toks := tk } ∧ h'.IsListIter s.heap.objs.size l i' ∧ Fr h₀ env.locals h' m' ∧ News h₀ env.locals h' news ∧ J i' m' ∧ i' ≤ cs.length ∧ k' = cs.length + 1 - i' := by
      rintro ⟨h', tk', m', news', rfl, F', N', hs', hJ'⟩
      exact ⟨cs.length + 1 - (i + 1), by omega, h', tk', m', i + 1, rfl, ⟨oI, (N' _ (hs' _ (.head _))).1, rI⟩, F', fun p hp => N' p (hs' p (.tail _ hp)), hJ', hlt, rfl⟩
    cases f with
    | ret v => exact h₆
    | brk => exact h₆
    | next => exact fin h₆
    | cont => exact fin h₆
  · have hin : i = cs.length := by omega
    subst hin
    refine wpAny_pyNext_list_end hh hit (up N' fun _ h => h) (by simp [hlen]) fun h₁ hk₁ => wpAny_execs_nil ?_
    have k₁ : ∀ b o, b ≠ s.heap.objs.size → h'.get? b = some o → h₁.get? b = some o := fun b o hb e => hk₁ b o hb e
    exact done m' h₁ _ news hJ (keepFr k₁) (keepN k₁)
end
end Mine
set_option Elab.async false
set_option maxRecDepth 100000
set_option linter.unusedSimpArgs false
set_option linter.unusedVariables false
namespace Mine
open PySem PySem.W PyProof.Rows PySem.Calls PySem.Spec
set_option maxHeartbeats 4000000
theorem lBody_eq : lBody = [lSt 0, lSt 1, lSt 2] := by kernel_rfl
/-- what the pairs must be like for the loop -/
structure PsOK (ps : List (Str × Str)) : Prop where
  one : ∀ p ∈ ps, p.1.length = 1
  six : ∀ p ∈ ps, p.2.length ≤ 6
  ten : ps.length = 10
theorem psN_mem {n : Nat} {ps : List (Str × Str)} {p : Str × Str} (h : p ∈ psN n ps) : p ∈ ps := by
  unfold psN at h
  obtain ⟨l, hl, hp⟩ := List.mem_flatten.mp h
  rw [List.eq_of_mem_replicate hl] at hp
  exact hp
theorem psN_len {n : Nat} {ps : List (Str × Str)} (h : ps.length = 10) : (psN n ps).length = n * 10 := by
  unfold psN
  rw [List.length_flatten]
  simp [h]
theorem txt_join (ys : List Str) : (Txt.join (Str.ofString "") ys).cps.toList = ys.flatMap (·.cps.toList) := by
  have e : Txt.join (Str.ofString "") ys = Str.join (Str.ofString "") ys := eq_of_beq (join_closes rfl)
  rw [e]
  have key : ∀ l : List Str, (Str.join (Str.ofString "") l).cps.toList = l.flatMap (·.cps.toList) := by
    intro l
    induction l with
    | nil => rfl
    | cons x r ih =>
      cases r with
      | nil => simp [join_one]
      | cons y r =>
        rw [join_cons_cons, Str.cps_append, Array.toList_append, Str.cps_append, Array.toList_append, ih]
        have e0 : (Str.ofString "").cps.toList = [] := by decide +kernel
        rw [e0, List.append_nil]
        rfl
  exact key ys
theorem ones_len : ∀ {l : List Str}, (∀ x ∈ l, x.length = 1) → (l.flatMap (·.cps.toList)).length = l.length
  | [], _ => rfl
  | x :: r, h => by
    rw [List.flatMap_cons, List.length_append, ones_len fun y hy => h y (List.mem_cons_of_mem _ hy), Array.length_toList, List.length_cons]
    have := h x (List.mem_cons_self ..)
    have e : x.cps.size = 1 := this
    omega
theorem pg0_len {n : Nat} {ps : List (Str × Str)} (h : PsOK ps) : (pg0 n ps).length = n * 10 := by
  show (pg0 n ps).cps.size = _
  rw [← Array.length_toList]
  unfold pg0
  rw [txt_join, ones_len, List.length_map, psN_len h.ten]
  intro x hx
  obtain ⟨p, hp, rfl⟩ := List.mem_map.mp hx
  exact h.one p (psN_mem hp)
theorem sum_ones : ∀ {l : List Str}, (∀ x ∈ l, x.length = 1) → (l.map (·.length)).sum = l.length
  | [], _ => rfl
  | x :: r, h => by
    rw [List.map_cons, List.sum_cons, sum_ones fun y hy => h y (List.mem_cons_of_mem _ hy), h x (List.mem_cons_self ..), List.length_cons]; omega
theorem law_turn (w : World) {mean : ExcName → Option Value} {mg mb : Str → Option Value} {H h1 : Heap} {tk1 : Nat} {s : Shared} {E : Value → Shared → Prop} {cd : Value} {fa D2 : Addr} {ys : List Value} {ps : List (Str × Str)} {news : List (Addr × Obj)} {m : Str → Option Value} {nt : Nat} {k : Int} {u t tt : Tok} {y : Str} {ip iw is : Nat} {rp rw rs : List Nat} {sp sw wp : Bool}
    (X : (K w.params).In H) (T : Top qv (looseW qv loose) mean mg mb H)
    (F : Fr H H.objs.size h1 m) (N : News H H.objs.size h1 news)
    (hsg : m (Str.ofString "signs") = some (.ref D2)) (htm : m (Str.ofString "times") = some (.int (nt : Int) tt)) (hes : m (Str.ofString "escape") = some (.int k u)) (hor : m (Str.ofString "order") = some (.str y t))
    (hD : (D2, LCg.lst ys) ∈ news) (S : SgIn news ys ps) (P : PsOK ps) (hnt : nt ≤ 2) (hk0 : 0 ≤ k) (hk5 : k < nL.length) (hy3 : y.cps.size = 3)
    (hip : Builtin.Str.occurrences y (Str.ofString "p") 0 y.length 1 = ip :: rp) (hiw : Builtin.Str.occurrences y (Str.ofString "w") 0 y.length 1 = iw :: rw) (his : Builtin.Str.occurrences y (Str.ofString "s") 0 y.length 1 = is :: rs)
    (hsp : decide ((is : Int) < ip) = sp) (hsw : decide ((is : Int) < iw) = sw) (hwp : decide ((iw : Int) < ip) = wp)
    (hpl : pgF k y.cps.toList (pg0 nt ps) = (dueF k sp sw wp (psN nt ps)).1)
    (hE : PassesOwn (model PySem.Challenge.rw_st0031_01.prog w) (callerA.deeper (lE H fa cd)) (lE H fa cd) E) :
    wpAny (model PySem.Challenge.rw_st0031_01.prog w) (callerA.deeper (lE H fa cd)) (execs lBody (lE H fa cd))
      (fun f s' => f = .next ∧ ∃ (h' : Heap) (tk' : Nat) (m' : Str → Option Value) (news' : List (Addr × Obj)), s' = { s with heap := h', toks := tk' } ∧ Fr H H.objs.size h' m' ∧ News H H.objs.size h' news' ∧ (∀ p ∈ news, p ∈ news') ∧ m' (Str.ofString "signs") = some (.ref D2) ∧ m' (Str.ofString "escape") = some (.int k u)) E { s with heap := h1, toks := tk1 } := by
  have h10 : ys.length = 10 := by rw [S.1, P.ten]
  have hpn : (psN nt ps).length ≤ 20 := by rw [psN_len P.ten]; omega
  have h1s : ∀ x ∈ (psN nt ps).map (·.1), x.length = 1 := fun x hx => by
    obtain ⟨p, hp, rfl⟩ := List.mem_map.mp hx
    exact P.one p (psN_mem hp)
  have hw : (((psN nt ps).map (·.1)).map (·.length)).sum + ((psN nt ps).map (·.1)).length ≤ 1048576 := by
    rw [sum_ones h1s, List.length_map]; omega
  rw [lBody_eq]
  refine wpAny_execs_cons (mono1 (law_b1 w X T F N hsg htm hD S h10 hnt hw) ?_)
  rintro f s' ⟨⟨rfl, h2, tk2, tp, news2, rfl, F2, N2, hs2⟩⟩
  dsimp only
  refine wpAny_execs_cons (mono1 (law_b2 w (x0 := pg0 nt ps) (y := y) (k := k) (u := u) (t := t) (tx := tp) X T F2 N2 rfl (by exact hes) (by exact hor) (by rw [pg0_len P]; omega) hy3 hE) ?_)
  rintro f s' ⟨⟨rfl, h3, tk3, tp3, m3', rfl, F3, e1, ⟨e2, e3, e4, e5⟩, N3⟩⟩
  dsimp only
  rw [hpl] at e1
  have e2' : m3' (Str.ofString "signs") = some (.ref D2) := e2.trans hsg
  have e3' : m3' (Str.ofString "times") = some (.int (nt : Int) tt) := e3.trans htm
  have e4' : m3' (Str.ofString "escape") = some (.int k u) := e4.trans hes
  have e5' : m3' (Str.ofString "order") = some (.str y t) := e5.trans hor
  have F4 : Fr H H.objs.size h3 (fun z => if z = Str.ofString "page" then some (.str (dueF k sp sw wp (psN nt ps)).1 tp3) else if z = Str.ofString "signs" then some (.ref D2) else if z = Str.ofString "times" then some (.int (nt : Int) tt) else if z = Str.ofString "escape" then some (.int k u) else if z = Str.ofString "order" then some (.str y t) else m3' z) :=
    (Fr.re (x := Str.ofString "page") (v := .str (dueF k sp sw wp (psN nt ps)).1 tp3) (Fr.re (x := Str.ofString "signs") (v := .ref D2) (Fr.re (x := Str.ofString "times") (v := .int (nt : Int) tt) (Fr.re (x := Str.ofString "escape") (v := .int k u) (Fr.re (x := Str.ofString "order") (v := .str y t) F3 (by exact e5')) (by exact e4')) (by exact e3')) (by exact e2')) (by exact e1))
  have hbb : ((dueF k sp sw wp (psN nt ps)).1 != (dueF k sp sw wp (psN nt ps)).1) = false := bne_self_eq_false _
  have H3 := law_b3 w (mean := mean) (mg := mg) (mb := mb) (H := H) (h1 := h3) (tk1 := tk3) (s := s) (E := E) (cd := cd) (fa := fa) (D2 := D2) (ys := ys) (ps := ps) (news := news2) (m := m3') (nt := nt) (k := k) (u := u) (t := t) (tx := tp3) (tt := tt) (y := y) (x := (dueF k sp sw wp (psN nt ps)).1) X T F4 N3 (hs2 _ hD) (S.mono hs2) h10 hnt hk0 hk5 hip hiw his hsp hsw hwp (Nat.le_trans hpn (by decide)) (fun p hp => P.six p (psN_mem hp)) hbb
  refine wpAny_execs_cons (mono1 H3 ?_)
  rintro f s' ⟨⟨rfl, h5, tk5, news5, rfl, F5, N5, hs5⟩⟩
  dsimp only
  refine wpAny_execs_nil ⟨rfl, h5, tk5, _, news5, rfl, F5, N5, fun p hp => hs5 p (hs2 p hp), ?_, ?_⟩
  · rw [if_neg (by decide +kernel), if_pos rfl]
  · rw [if_neg (by decide +kernel), if_neg (by decide +kernel), if_neg (by decide +kernel), if_pos rfl]
/-- the plain law, for the pairs ps -/
noncomputable def PlainOK (k : Int) (ps : List (Str × Str)) : Prop :=
  ∀ r ∈ ([("pws", 1, false, false, false), ("wps", 1, false, false, true), ("psw", 1, false, true, false), ("spw", 1, true, true, false), ("swp", 1, true, true, true), ("wsp", 1, true, false, true), ("psw", 2, false, true, false)] : List (String × Nat × Bool × Bool × Bool)),
    pgF k (Str.ofString r.1).cps.toList (pg0 r.2.1 ps) = (dueF k r.2.2.1 r.2.2.2.1 r.2.2.2.2 (psN r.2.1 ps)).1
noncomputable def lCs : List (Const × Const) := [(.str (Str.ofString "pws"), .int 1), (.str (Str.ofString "wps"), .int 1), (.str (Str.ofString "psw"), .int 1), (.str (Str.ofString "spw"), .int 1), (.str (Str.ofString "swp"), .int 1), (.str (Str.ofString "wsp"), .int 1), (.str (Str.ofString "psw"), .int 2)]
theorem tups_at {H h1 : Heap} {L : Addr} {m : Str → Option Value} {news : List (Addr × Obj)} {es : List PySem.Expr} {pos : Pos} {env : Env} {A : Around} {M : Model} {Q : Value → Shared → Prop} {E : Value → Shared → Prop} {s : Shared} {tk1 : Nat} {cs : List (Const × Const)} (F : Fr H L h1 m) (N : News H L h1 news) (hc : tupsC es = some cs) (hl : cs.length ≤ 1000)
    (h : ∀ l vs ts h' tk', Fr H L h' m → News H L h' ((l, { cls := .type "list", data := .seq vs.toArray }) :: (ts ++ news)) → TupsIn ts vs cs → vs.length = cs.length → Q (.ref l) { s with heap := h', toks := tk' }) : wpAny M A (eval (.List es pos) env) Q E { s with heap := h1, toks := tk1 } :=
  list_tups (s := { s with heap := h1, toks := tk1 }) F N hc hl h
theorem law_5 (w : World) {mean : ExcName → Option Value} {mg mb : Str → Option Value} {H h1 : Heap} {tk1 : Nat} {s : Shared} {E : Value → Shared → Prop} {cd : Value} {fa D2 : Addr} {ys : List Value} {ps : List (Str × Str)} {news : List (Addr × Obj)} {m : Str → Option Value} {k : Int} {u : Tok}
    (X : (K w.params).In H) (T : Top qv (looseW qv loose) mean mg mb H)
    (F : Fr H H.objs.size h1 m) (N : News H H.objs.size h1 news)
    (hsg : m (Str.ofString "signs") = some (.ref D2)) (hes : m (Str.ofString "escape") = some (.int k u))
    (hD : (D2, LCg.lst ys) ∈ news) (S : SgIn news ys ps) (P : PsOK ps) (hk0 : 0 ≤ k) (hk5 : k < nL.length) (hpl : PlainOK k ps)
    (hE : PassesOwn (model PySem.Challenge.rw_st0031_01.prog w) (callerA.deeper (lE H fa cd)) (lE H fa cd) E) :
    wpAny (model PySem.Challenge.rw_st0031_01.prog w) (callerA.deeper (lE H fa cd)) (exec (lB 4) (lE H fa cd))
      (fun f s' => f = .next ∧ ∃ (h' : Heap) (tk' : Nat) (m' : Str → Option Value), s' = { s with heap := h', toks := tk' } ∧ Fr H H.objs.size h' m') E { s with heap := h1, toks := tk1 } := by
  conv =>
    enter [3, 1]
    whnf
  refine wpAny_For ?_ ?_
  rotate_left
  · intro _; rfl
  refine mono1 (Q := fun v s' => ∃ l vs ts h' tk', v = .ref l ∧ s' = { s with heap := h', toks := tk' } ∧ Fr H H.objs.size h' m ∧ News H H.objs.size h' ((l, { cls := .type "list", data := .seq vs.toArray }) :: (ts ++ news)) ∧ TupsIn ts vs lCs ∧ vs.length = lCs.length) ?_ ?_
  · have z := fun es pos env A M Q E => tups_at (H := H) (h1 := h1) (L := H.objs.size) (m := m) (news := news) (s := s) (tk1 := tk1) (cs := lCs) (es := es) (pos := pos) (env := env) (A := A) (M := M) (Q := Q) (E := E) F N
    refine z _ _ _ _ _ _ _ ?_ ?_ ?_
    kernel_rfl
    decide
    exact fun l vs ts h' tk' a b c d => ⟨l, vs, ts, h', tk', rfl, rfl, a, b, c, d⟩
  rintro v s' ⟨l, vs, ts, h2, tk2, rfl, rfl, F2, N2, hts, hvl⟩
  refine for_led (fun i m' => m' (Str.ofString "signs") = some (.ref D2) ∧ m' (Str.ofString "escape") = some (.int k u)) rfl (.head _) hts (fun p hp => .tail _ (List.mem_append_left _ hp)) hvl (by rfl) (by rfl) (by rfl) F2 N2 ⟨hsg, hes⟩ ?turn ?done hE
  case done =>
    rintro m₁ h3 tk3 own _ F3 _
    exact ⟨rfl, _, _, _, rfl, F3⟩
  case turn =>
    rintro i c t v m₁ h3 tk3 own hc ⟨e1, e2⟩ F3 N3 hs3
    have hs : ∀ p ∈ news, p ∈ own := fun p hp => hs3 p (.tail _ (List.mem_append_right _ hp))
    have go : ∀ (y : String) (nt : Nat) (sp sw wp : Bool) (ip iw is : Nat), c = (.str (Str.ofString y), .int (nt : Int)) → nt ≤ 2 → (Str.ofString y).cps.size = 3 →
        Builtin.Str.occurrences (Str.ofString y) (Str.ofString "p") 0 (Str.ofString y).length 1 = [ip] → Builtin.Str.occurrences (Str.ofString y) (Str.ofString "w") 0 (Str.ofString y).length 1 = [iw] → Builtin.Str.occurrences (Str.ofString y) (Str.ofString "s") 0 (Str.ofString y).length 1 = [is] →
        decide ((is : Int) < ip) = sp → decide ((is : Int) < iw) = sw → decide ((iw : Int) < ip) = wp → (y, nt, sp, sw, wp) ∈ ([("pws", 1, false, false, false), ("wps", 1, false, false, true), ("psw", 1, false, true, false), ("spw", 1, true, true, false), ("swp", 1, true, true, true), ("wsp", 1, true, false, true), ("psw", 2, false, true, false)] : List (String × Nat × Bool × Bool × Bool)) →
        wpAny (model PySem.Challenge.rw_st0031_01.prog w) (callerA.deeper (lE H fa cd)) (execs lBody (lE H fa cd)) (TurnEnd H H.objs.size own (fun m' => m' (Str.ofString "signs") = some (.ref D2) ∧ m' (Str.ofString "escape") = some (.int k u)) { s with heap := h3, toks := tk3 } fun f s' => f = .next ∧ ∃ (h' : Heap) (tk' : Nat) (m' : Str → Option Value), s' = { s with heap := h', toks := tk' } ∧ Fr H H.objs.size h' m') E { s with heap := h3, toks := tk3 } := by
      rintro y nt sp sw wp ip iw is rfl hnt hy3 hip hiw his hsp hsw hwp hr
      refine mono1 (law_turn w X T F3 N3 (y := Str.ofString y) (nt := nt) (k := k) (u := u) (D2 := D2) (by exact e1) (by rfl) (by exact e2) (by rfl) (hs _ hD) (S.mono hs) P hnt hk0 hk5 hy3 hip hiw his hsp hsw hwp (hpl _ hr) hE) ?_
      rintro f s₂ ⟨rfl, h4, tk4, m4, news4, rfl, F4, N4, hs4, e3, e4⟩
      exact ⟨h4, tk4, m4, news4, rfl, F4, N4, hs4, e3, e4⟩
    have h7 : i < 7 := (List.getElem?_eq_some_iff.mp hc).1
    have hi : i = 0 ∨ i = 1 ∨ i = 2 ∨ i = 3 ∨ i = 4 ∨ i = 5 ∨ i = 6 := by omega
    rcases hi with rfl | rfl | rfl | rfl | rfl | rfl | rfl
    · exact go "pws" 1 _ _ _ 0 1 2 (by have e := Option.some.inj hc; exact e.symm) (by decide) (by decide +kernel) (by decide +kernel) (by decide +kernel) (by decide +kernel) rfl rfl rfl (.head _)
    · exact go "wps" 1 _ _ _ 1 0 2 (by have e := Option.some.inj hc; exact e.symm) (by decide) (by decide +kernel) (by decide +kernel) (by decide +kernel) (by decide +kernel) rfl rfl rfl (.tail _ (.head _))
    · exact go "psw" 1 _ _ _ 0 2 1 (by have e := Option.some.inj hc; exact e.symm) (by decide) (by decide +kernel) (by decide +kernel) (by decide +kernel) (by decide +kernel) rfl rfl rfl (.tail _ (.tail _ (.head _)))
    · exact go "spw" 1 _ _ _ 1 2 0 (by have e := Option.some.inj hc; exact e.symm) (by decide) (by decide +kernel) (by decide +kernel) (by decide +kernel) (by decide +kernel) rfl rfl rfl (.tail _ (.tail _ (.tail _ (.head _))))
    · exact go "swp" 1 _ _ _ 2 1 0 (by have e := Option.some.inj hc; exact e.symm) (by decide) (by decide +kernel) (by decide +kernel) (by decide +kernel) (by decide +kernel) rfl rfl rfl (.tail _ (.tail _ (.tail _ (.tail _ (.head _)))))
    · exact go "wsp" 1 _ _ _ 2 0 1 (by have e := Option.some.inj hc; exact e.symm) (by decide) (by decide +kernel) (by decide +kernel) (by decide +kernel) (by decide +kernel) rfl rfl rfl (.tail _ (.tail _ (.tail _ (.tail _ (.tail _ (.head _))))))
    · exact go "psw" 2 _ _ _ 0 2 1 (by have e := Option.some.inj hc; exact e.symm) (by decide) (by decide +kernel) (by decide +kernel) (by decide +kernel) (by decide +kernel) rfl rfl rfl (.tail _ (.tail _ (.tail _ (.tail _ (.tail _ (.tail _ (.head _)))))))
end Mine
set_option Elab.async false
set_option maxRecDepth 100000
set_option linter.unusedSimpArgs false
set_option linter.unusedVariables false
namespace Mine
open PySem PySem.W PyProof.Rows PySem.Calls PySem.Spec
set_option maxHeartbeats 4000000
theorem k3_one : ∀ j < 3, ((k3.getD j ⟨#[]⟩).length = 1) := by decide +kernel
theorem k5_one : ∀ j < 5, ((k5.getD j ⟨#[]⟩).length = 1) := by decide +kernel
theorem wl_len : ∀ j < 19, ((wl.getD j (0, ⟨#[]⟩)).2.length ≤ 6) := by decide +kernel
theorem sgn_one (n : Int) : (sgnP n).1.length = 1 := by
  unfold sgnP
  have h9 := fmod_rng n 9 (by decide)
  have h5 := fmod_rng (n.fdiv 9) 5 (by decide)
  split
  · exact k3_one _ (by omega)
  · split
    · rfl
    · split
      · exact k5_one _ (by omega)
      · split
        · rfl
        · split
          · rfl
          · split
            · rfl
            · rfl
theorem sgn_six (n : Int) : (sgnP n).2.length ≤ 6 := by
  unfold sgnP
  have h9 := fmod_rng n 9 (by decide)
  have h5 := fmod_rng (n.fdiv 9) 5 (by decide)
  have h19 := fmod_rng (n.fdiv 9) 19 (by decide)
  split
  · exact Nat.le_trans (Nat.le_of_eq (k3_one _ (by omega))) (by decide)
  · split
    · exact Nat.zero_le _
    · split
      · exact Nat.le_trans (Nat.le_of_eq (k5_one _ (by omega))) (by decide)
      · split
        · exact (by decide : 1 ≤ 6)
        · split
          · exact wl_len _ (by omega)
          · split
            · exact (by decide : 1 ≤ 6)
            · exact (by decide : 1 ≤ 6)
theorem ps_ok {ns : List Int} (h : ns.length = 10) : PsOK (ns.map sgnP) where
  one := fun p hp => by obtain ⟨n, _, rfl⟩ := List.mem_map.mp hp; exact sgn_one n
  six := fun p hp => by obtain ⟨n, _, rfl⟩ := List.mem_map.mp hp; exact sgn_six n
  ten := by rw [List.length_map]; exact h
theorem step1 {M : Model} {A : Around} {env : Env} {E : Value → Shared → Prop} {s : Shared} {st : Stmt} {rest : List Stmt} {Q1 Q : Flow → Shared → Prop} (h1 : wpAny M A (exec st env) Q1 E s) (h2 : ∀ f s', Q1 f s' → match f with | .next => wpAny M A (execs rest env) Q E s' | f => Q f s') : wpAny M A (execs (st :: rest) env) Q E s :=
  wpAny_execs_cons (wpAny_mono h1 h2 fun _ _ e => e)
theorem lBs : fB 28 = [lB 0, lB 1, lB 2, lB 3, lB 4, lB 5] := by kernel_rfl
theorem spec_law (w : World) {mean : ExcName → Option Value} {mg mb : Str → Option Value} {H h₁ : Heap} {tk : Nat} {s : Shared} {E : Value → Shared → Prop} {cd : Value} {fa sl : Addr} {vs : List Value} {ns : List Int} {on os : Obj}
    (hplain : ∀ (k : Int) (ns3 : List Int), 0 ≤ k → k < 5 → PlainOK k (ns3.map sgnP))
    (X : (K w.params).In H) (T : Top qv (looseW qv loose) mean mg mb H)
    (F : Fr H H.objs.size h₁ (fun _ => none)) (N : News H H.objs.size h₁ [(H.objs.size + 1 + 1, on), (H.objs.size + 1, os)]) (hon : on.data = .cell none) (hos : os.data = .cell (some (.ref sl)))
    (hl : H.IsList sl vs.toArray) (hi : IntsAre vs ns) (h63 : ns.length ≤ 63)
    (hE : PassesOwn (model PySem.Challenge.rw_st0031_01.prog w) (callerA.deeper (lE H fa cd)) (lE H fa cd) E) :
    wpAny (model PySem.Challenge.rw_st0031_01.prog w) (callerA.deeper (lE H fa cd)) (execs (fB 28) (lE H fa cd))
      (fun f s' => Aft (f = .ret (.bool true) ∧ ∃ (h' : Heap) (tk' : Nat) (m' : Str → Option Value), s' = { s with heap := h', toks := tk' } ∧ Fr H H.objs.size h' m')) E { s with heap := h₁, toks := tk } := by
  rw [lBs]
  have z1 := @law_1 w mean mg mb H h₁ tk s E cd fa sl on os X T F N hon hos
  generalize lB 0 = b0 at z1 ⊢
  refine @step1 _ _ _ _ _ _ _ _ _ z1 ?_
  rintro f s' ⟨⟨rfl, h2, tk2, D1, ys1, on2, rfl, F2, N2, dn2, hi1⟩⟩
  dsimp only
  have z2 := @law_2 w mean mg mb H h2 tk2 s E cd fa sl D1 vs ys1 ns on2 os X T F2 N2 dn2 hos hl hi h63 hi1
  generalize lB 1 = b1 at z2 ⊢
  refine @step1 _ _ _ _ _ _ _ _ _ z2 ?_
  rintro f s' ⟨⟨rfl, h3, tk3, D3, ys3, on3, ns2, rfl, F3, N3, dn3, hi3, hn3⟩⟩
  dsimp only
  have z3 := @law_3 w mean mg mb H h3 tk3 s E cd fa D3 ys3 ns2 on3 os X T F3 N3 dn3 hi3 hn3
  generalize lB 2 = b2 at z3 ⊢
  refine @step1 _ _ _ _ _ _ _ _ _ z3 ?_
  rintro f s' ⟨⟨rfl, h4, tk4, k, tz, rfl, hk0, hk5, F4, N4⟩⟩
  dsimp only
  have z4 := @law_4 w mean mg mb H h4 tk4 s E cd fa D3 ys3 ns2 on3 os k tz X T F4 N4 dn3 hi3 hn3
  generalize lB 3 = b3 at z4 ⊢
  refine @step1 _ _ _ _ _ _ _ _ _ z4 ?_
  rintro f s' ⟨⟨rfl, h5, tk5, D5, ys5, ns5, news5, rfl, hn5, F5, N5, S5⟩⟩
  dsimp only
  have z5 := @law_5 w mean mg mb H h5 tk5 s E cd fa D5 ys5 (ns5.map sgnP) ((D5, LCg.lst ys5) :: news5) (fun z => if z = Str.ofString "signs" then some (.ref D5) else if z = Str.ofString "escape" then some (.int k tz) else none) k tz X T F5 N5 (by rfl) (by rfl) (.head _) (S5.mono fun p hp => .tail _ hp) (ps_ok hn5) hk0 hk5 (hplain k ns5 hk0 hk5) hE
  generalize lB 4 = b4 at z5 ⊢
  refine @step1 _ _ _ _ _ _ _ _ _ z5 ?_
  rintro f s' ⟨rfl, h6, tk6, m6, rfl, F6⟩
  dsimp only
  clear z1 z2 z3 z4 z5
  refine wpAny_execs_cons ?_
  conv =>
    enter [3, 1]
    whnf
  k_steps
  rename Fr _ _ _ _ => Fe
  exact ⟨⟨by first | rfl | trivial, _, _, _, rfl, Fe⟩⟩
end Mine
set_option Elab.async false
set_option maxRecDepth 100000
set_option linter.unusedSimpArgs false
set_option linter.unusedVariables false
namespace Mine
open PySem PySem.W PyProof.Rows PySem.Calls PySem.Spec
set_option maxHeartbeats 4000000
/- the two list machines over an append -/
noncomputable def lfg (h : Bool) (u : List Nat) : Bool := u.foldl (fun _ c => c == 13) h
noncomputable def dfg (f : Bool) (u : List Nat) : Bool := u.foldl (fun _ c => c == 10) f
theorem leL_cons (h : Bool) (c : Nat) (r : List Nat) : leL h (c :: r) = if c = 13 then 13 :: 10 :: leL true r else if c = 10 then (if h then leL false r else 13 :: 10 :: leL false r) else c :: leL false r := rfl
theorem dtL_cons (f : Bool) (c : Nat) (r : List Nat) : dtL f (c :: r) = (if c = 46 ∧ f = true then [46, 46] else [c]) ++ dtL (c == 10) r := rfl
theorem leL_app : ∀ (u v : List Nat) (h : Bool), leL h (u ++ v) = leL h u ++ leL (lfg h u) v
  | [], _, _ => rfl
  | c :: r, v, h => by
    have e1 : lfg h (c :: r) = lfg (c == 13) r := rfl
    rw [e1, List.cons_append, leL_cons, leL_cons]
    by_cases h1 : c = 13
    · subst h1
      rw [if_pos rfl, if_pos rfl, leL_app r v true]; rfl
    · rw [if_neg h1, if_neg h1, show (c == 13) = false from beq_eq_false_iff_ne.mpr h1]
      by_cases h2 : c = 10
      · rw [if_pos h2, if_pos h2, leL_app r v false]
        cases h <;> rfl
      · rw [if_neg h2, if_neg h2, leL_app r v false]; rfl
theorem dtL_app : ∀ (u v : List Nat) (f : Bool), dtL f (u ++ v) = dtL f u ++ dtL (dfg f u) v
  | [], _, _ => rfl
  | c :: r, v, f => by
    have e1 : dfg f (c :: r) = dfg (c == 10) r := rfl
    rw [e1, List.cons_append, dtL_cons, dtL_cons, dtL_app r v (c == 10), List.append_assoc]
/- the fold of _law_due, sign by sign -/
noncomputable def StepOK (u g : Nat → List Nat) (k : Int) (sp sw wp : Bool) (c : Nat) (m : Str) : Prop :=
  ∀ (d : Str) (h f : Bool), (h = true → f = true) →
    dueStep k sp sw wp (d, f, h) m = (d ++ ⟨((dtL f (leL h (u c))).flatMap g).toArray⟩, dfg f (leL h (u c)), lfg h (u c)) ∧ (lfg h (u c) = true → dfg f (leL h (u c)) = true)
theorem fold_ok {u g : Nat → List Nat} {k : Int} {sp sw wp : Bool} : ∀ (ps : List (Str × Str)), (∀ p ∈ ps, ∃ c, p.1 = ⟨#[c]⟩ ∧ StepOK u g k sp sw wp c p.2) → ∀ (d : Str) (h f : Bool), (h = true → f = true) →
    (ps.foldl (fun st p => dueStep k sp sw wp st p.2) (d, f, h)).1.cps.toList = d.cps.toList ++ (dtL f (leL h ((ps.flatMap (·.1.cps.toList)).flatMap u))).flatMap g
  | [], _, d, h, f, _ => by simp [leL, dtL]
  | p :: ps, H, d, h, f, hf => by
    obtain ⟨c, e, S⟩ := H p (List.mem_cons_self ..)
    obtain ⟨e1, e2⟩ := S d h f hf
    rw [List.foldl_cons, e1, fold_ok ps (fun q hq => H q (List.mem_cons_of_mem _ hq)) _ _ _ e2, List.flatMap_cons, e]
    have e3 : ((⟨#[c]⟩ : Str).cps.toList ++ ps.flatMap (·.1.cps.toList)).flatMap u = u c ++ (ps.flatMap (·.1.cps.toList)).flatMap u := by
      rw [List.flatMap_append]; simp
    rw [e3, leL_app, dtL_app, List.flatMap_append, Str.cps_append, Array.toList_append, List.append_assoc]
theorem dueF_ok {u g : Nat → List Nat} {k : Int} {sp sw wp : Bool} {ps : List (Str × Str)} (H : ∀ p ∈ ps, ∃ c, p.1 = ⟨#[c]⟩ ∧ StepOK u g k sp sw wp c p.2) :
    (dueF k sp sw wp ps).1.cps.toList = (dtL true (leL false ((ps.flatMap (·.1.cps.toList)).flatMap u))).flatMap g := by
  unfold dueF
  rw [fold_ok ps H _ _ _ (fun e => by cases e), show (Str.ofString "").cps.toList = [] by decide +kernel, List.nil_append]
/- prep of ASCII -/
theorem b3_hi : (b3Items.all fun x => decide (128 ≤ x.1)) = true := by decide +kernel
theorem b3_gap : (b3Items.all fun x => decide (x.1 < 19968) || decide (40869 < x.1)) = true := by decide +kernel
theorem b3_none {c : Nat} (h : ∀ x ∈ b3Items, x.1 ≠ (c : Int)) : b3s c = none := by
  unfold b3s
  rw [Option.map_eq_none_iff, List.find?_eq_none]
  intro x hx
  simpa using h x hx
theorem prC_ascii {d : Nat} (h : d < 128) : prC d = [lo1 d] := by
  have hb : b1b (d : Int) = false := by
    unfold b1b b1L
    rw [Bool.eq_false_iff]
    intro e
    have e' := List.contains_iff_mem.mp e
    simp only [List.mem_cons, List.not_mem_nil, or_false] at e'
    omega
  have h3 : b3s (d : Int) = none := b3_none fun x hx e => by
    have := of_decide_eq_true (List.all_eq_true.mp b3_hi x hx)
    omega
  unfold prC
  rw [hb, m3_none h3, lower_ascii (by intro c hc; rw [List.mem_singleton.mp hc]; exact h), if_neg (by decide)]
  show (#[d].map lo1).toList = [lo1 d]
  simp
noncomputable def prD (d : Nat) : List Nat := if d < 128 then [lo1 d] else prC d
theorem prD_eq : prC = prD := by
  funext d
  unfold prD
  by_cases h : d < 128
  · rw [if_pos h, prC_ascii h]
  · rw [if_neg h]
/- the six orders -/
noncomputable def spL : List Nat := [46, 13, 10, 38, 60, 62, 34, 9]
noncomputable def eF (k : Int) : Nat → List Nat := es (eL (kI k))
noncomputable def uR (r : Nat) (pr e : Nat → List Nat) (c : Nat) : List Nat :=
  if r = 0 then (pr c).flatMap e else if r = 1 then (e c).flatMap pr else if r = 2 then pr c else if r = 3 then [c] else if r = 4 then [c] else e c
noncomputable def gR (r : Nat) (pr e : Nat → List Nat) (d : Nat) : List Nat :=
  if r = 0 then [d] else if r = 1 then [d] else if r = 2 then e d else if r = 3 then (pr d).flatMap e else if r = 4 then (e d).flatMap pr else pr d
noncomputable def spR (r : Nat) : Bool := decide (3 ≤ r)
noncomputable def swR (r : Nat) : Bool := decide (r = 2 ∨ r = 3 ∨ r = 4)
noncomputable def wpR (r : Nat) : Bool := decide (r = 1 ∨ r = 4 ∨ r = 5)
theorem dueStep_app (k : Int) (sp sw wp : Bool) (d : Str) (st : Bool × Bool) (m : Str) : dueStep k sp sw wp (d, st) m = (d ++ (dueStep k sp sw wp (⟨#[]⟩, st) m).1, (dueStep k sp sw wp (⟨#[]⟩, st) m).2) := by
  have e0 : ∀ x : Str, (⟨#[]⟩ : Str) ++ x = x := fun x => by
    obtain ⟨a⟩ := x
    show (⟨#[] ++ a⟩ : Str) = _
    rw [Array.empty_append]
  have e1 : ∀ x : Str, x ++ (⟨#[]⟩ : Str) = x := fun x => by
    obtain ⟨a⟩ := x
    show (⟨a ++ #[]⟩ : Str) = _
    rw [Array.append_empty]
  unfold dueStep
  split
  · rw [e1]
  · split
    · split
      · simp only [e0]
      · simp only [e0]
    · split
      · split
        · simp only [e0]
        · simp only [e0]
      · simp only [e0]
noncomputable def spOK (r : Nat) (k : Int) (c : Nat) (h f : Bool) : Bool :=
  (h && !f) || (decide (dueStep k (spR r) (swR r) (wpR r) (⟨#[]⟩, f, h) ⟨#[c]⟩ = (⟨((dtL f (leL h (uR r prD (eF k) c))).flatMap (gR r prD (eF k))).toArray⟩, dfg f (leL h (uR r prD (eF k) c)), lfg h (uR r prD (eF k) c))) && (!(lfg h (uR r prD (eF k) c)) || dfg f (leL h (uR r prD (eF k) c))))
theorem sp_all0 : ∀ k ∈ ([0, 1, 2, 3, 4] : List Int), ∀ c ∈ spL, ∀ h f : Bool, spOK 0 k c h f = true := by decide +kernel
theorem sp_all1 : ∀ k ∈ ([0, 1, 2, 3, 4] : List Int), ∀ c ∈ spL, ∀ h f : Bool, spOK 1 k c h f = true := by decide +kernel
theorem sp_all2 : ∀ k ∈ ([0, 1, 2, 3, 4] : List Int), ∀ c ∈ spL, ∀ h f : Bool, spOK 2 k c h f = true := by decide +kernel
theorem sp_all3 : ∀ k ∈ ([0, 1, 2, 3, 4] : List Int), ∀ c ∈ spL, ∀ h f : Bool, spOK 3 k c h f = true := by decide +kernel
theorem sp_all4 : ∀ k ∈ ([0, 1, 2, 3, 4] : List Int), ∀ c ∈ spL, ∀ h f : Bool, spOK 4 k c h f = true := by decide +kernel
theorem sp_all5 : ∀ k ∈ ([0, 1, 2, 3, 4] : List Int), ∀ c ∈ spL, ∀ h f : Bool, spOK 5 k c h f = true := by decide +kernel
theorem sp_all {r : Nat} (hr : r < 6) : ∀ k ∈ ([0, 1, 2, 3, 4] : List Int), ∀ c ∈ spL, ∀ h f : Bool, spOK r k c h f = true := by
  have : r = 0 ∨ r = 1 ∨ r = 2 ∨ r = 3 ∨ r = 4 ∨ r = 5 := by omega
  rcases this with rfl | rfl | rfl | rfl | rfl | rfl
  · exact sp_all0
  · exact sp_all1
  · exact sp_all2
  · exact sp_all3
  · exact sp_all4
  · exact sp_all5
theorem step_sp {r : Nat} {k : Int} {c : Nat} (hr : r < 6) (h0 : 0 ≤ k) (h5 : k < 5) (hc : c ∈ spL) : StepOK (uR r prC (eF k)) (gR r prC (eF k)) k (spR r) (swR r) (wpR r) c ⟨#[c]⟩ := by
  intro d h f hf
  have a := sp_all hr k (k_mem h0 h5) c hc h f
  unfold spOK at a
  have hz : (h && !f) = false := by cases h <;> cases f <;> simp_all
  rw [hz, Bool.false_or, Bool.and_eq_true] at a
  rw [prD_eq]
  obtain ⟨a1, a2⟩ := a
  have a1 := of_decide_eq_true a1
  refine ⟨?_, ?_⟩
  · rw [dueStep_app, a1]
  · intro e
    rw [e] at a2
    simpa using a2
/- the other signs -/
noncomputable def Gen (c : Nat) (m : Str) : Prop := c ∉ spL ∧ prC c = m.cps.toList ∧ ∀ d ∈ m.cps.toList, d ∉ spL ∧ prC d = [d]
theorem eL_sp : ∀ k ∈ ([0, 1, 2, 3, 4] : List Int), ((eL (kI k)).all fun p => spL.contains p.1) = true := by decide +kernel
theorem eF_free {k : Int} {d : Nat} (h0 : 0 ≤ k) (h5 : k < 5) (hd : d ∉ spL) : eF k d = [d] := by
  have e : (eL (kI k)).lookup d = none := lk_free fun p hp e => by
    have h := List.all_eq_true.mp (eL_sp k (k_mem h0 h5)) p hp
    rw [e] at h
    exact hd (by simpa using h)
  unfold eF es
  rw [e]
theorem flatMap_id {f : Nat → List Nat} : ∀ {l : List Nat}, (∀ d ∈ l, f d = [d]) → l.flatMap f = l
  | [], _ => rfl
  | a :: l, h => by rw [List.flatMap_cons, h a (List.mem_cons_self ..), flatMap_id fun d hd => h d (List.mem_cons_of_mem _ hd)]; rfl
theorem sp_mem {d : Nat} (h : d ∉ spL) : d ≠ 46 ∧ d ≠ 13 ∧ d ≠ 10 := by
  refine ⟨fun e => h (e ▸ by decide), fun e => h (e ▸ by decide), fun e => h (e ▸ by decide)⟩
theorem leL_free : ∀ {U : List Nat} (h : Bool), (∀ d ∈ U, d ∉ spL) → leL h U = U
  | [], _, _ => rfl
  | a :: U, h, H => by
    obtain ⟨_, h1, h2⟩ := sp_mem (H a (List.mem_cons_self ..))
    rw [leL_cons, if_neg h1, if_neg h2, leL_free false fun d hd => H d (List.mem_cons_of_mem _ hd)]
theorem dtL_free : ∀ {U : List Nat} (f : Bool), (∀ d ∈ U, d ∉ spL) → dtL f U = U
  | [], _, _ => rfl
  | a :: U, f, H => by
    obtain ⟨h1, _, _⟩ := sp_mem (H a (List.mem_cons_self ..))
    rw [dtL_cons, if_neg (fun e => h1 e.1), dtL_free _ fun d hd => H d (List.mem_cons_of_mem _ hd)]; rfl
theorem lfg_free : ∀ {U : List Nat} (h : Bool), U ≠ [] → (∀ d ∈ U, d ∉ spL) → lfg h U = false
  | [a], h, _, H => beq_eq_false_iff_ne.mpr (sp_mem (H a (List.mem_cons_self ..))).2.1
  | a :: b :: U, h, _, H => lfg_free (a == 13) (U := b :: U) (by simp) fun d hd => H d (List.mem_cons_of_mem _ hd)
theorem dfg_free : ∀ {U : List Nat} (h : Bool), U ≠ [] → (∀ d ∈ U, d ∉ spL) → dfg h U = false
  | [a], h, _, H => beq_eq_false_iff_ne.mpr (sp_mem (H a (List.mem_cons_self ..))).2.2
  | a :: b :: U, h, _, H => dfg_free (a == 10) (U := b :: U) (by simp) fun d hd => H d (List.mem_cons_of_mem _ hd)
theorem gen_step {u g : Nat → List Nat} {k : Int} {sp sw wp : Bool} {c : Nat} {m : Str} (h0 : 0 ≤ k) (h5 : k < 5) (G : Gen c m)
    (hU : (sp = false ∧ u c = m.cps.toList) ∨ (sp = true ∧ u c = [c])) (hg : (u c).flatMap g = m.cps.toList) : StepOK u g k sp sw wp c m := by
  intro d h f hf
  obtain ⟨hc, hp, hm⟩ := G
  have hfree : ∀ d ∈ u c, d ∉ spL := by
    rcases hU with ⟨_, e⟩ | ⟨_, e⟩
    · rw [e]; exact fun d hd => (hm d hd).1
    · rw [e]; intro d hd; rw [List.mem_singleton.mp hd]; exact hc
  rw [leL_free h hfree, dtL_free f hfree, hg]
  have em : (⟨m.cps.toList.toArray⟩ : Str) = m := by obtain ⟨a⟩ := m; simp
  rw [em]
  by_cases hnil : m.cps.toList = []
  · have e0 : m = Str.ofString "" := by
      obtain ⟨⟨l⟩⟩ := m
      have : l = [] := hnil
      subst this
      decide +kernel
    have ed : d ++ m = d := by
      rw [e0]
      obtain ⟨a⟩ := d
      show (⟨a ++ (Str.ofString "").cps⟩ : Str) = _
      rw [show (Str.ofString "").cps = #[] by decide +kernel, Array.append_empty]
    rw [ed, e0, ds_e]
    rcases hU with ⟨rfl, e⟩ | ⟨rfl, e⟩
    · rw [e, hnil]
      exact ⟨rfl, hf⟩
    · have hne : u c ≠ [] := by rw [e]; simp
      rw [lfg_free h hne hfree, dfg_free f hne hfree]
      exact ⟨rfl, fun e => by cases e⟩
  · have hne : u c ≠ [] := by
      rcases hU with ⟨_, e⟩ | ⟨_, e⟩
      · rw [e]; exact hnil
      · rw [e]; simp
    rw [lfg_free h hne hfree, dfg_free f hne hfree]
    refine ⟨?_, fun e => by cases e⟩
    have n46 : m ≠ Str.ofString "." := fun e => (hm 46 (by rw [e]; decide +kernel)).1 (by decide)
    have n13 : m ≠ Str.ofString "\x0d" := fun e => (hm 13 (by rw [e]; decide +kernel)).1 (by decide)
    have n10 : m ≠ Str.ofString "\n" := fun e => (hm 10 (by rw [e]; decide +kernel)).1 (by decide)
    have n0 : m ≠ Str.ofString "" := fun e => hnil (by rw [e]; decide +kernel)
    rw [ds_gen n0 n46 n13 n10]
    have ew : nmS k m = m := by
      unfold nmS
      split
      · show (⟨(m.cps.toList.flatMap (eF k)).toArray⟩ : Str) = m
        rw [flatMap_id fun d hd => eF_free h0 h5 (hm d hd).1]
      · rfl
    rw [ew]
theorem step_gen {r : Nat} {k : Int} {c : Nat} {m : Str} (hr : r < 6) (h0 : 0 ≤ k) (h5 : k < 5) (G : Gen c m) : StepOK (uR r prC (eF k)) (gR r prC (eF k)) k (spR r) (swR r) (wpR r) c m := by
  have ec := eF_free h0 h5 G.1
  have hpc := G.2.1
  have em : m.cps.toList.flatMap (eF k) = m.cps.toList := flatMap_id fun d hd => eF_free h0 h5 (G.2.2 d hd).1
  have e1 : ∀ l : List Nat, l.flatMap (fun d => [d]) = l := fun l => flatMap_id fun _ _ => rfl
  have : r = 0 ∨ r = 1 ∨ r = 2 ∨ r = 3 ∨ r = 4 ∨ r = 5 := by omega
  rcases this with rfl | rfl | rfl | rfl | rfl | rfl
  · have eu : uR 0 prC (eF k) c = m.cps.toList := by show (prC c).flatMap (eF k) = _; rw [hpc, em]
    exact gen_step h0 h5 G (.inl ⟨rfl, eu⟩) (by rw [eu]; exact e1 _)
  · have eu : uR 1 prC (eF k) c = m.cps.toList := by show (eF k c).flatMap prC = _; rw [ec, List.flatMap_cons, List.flatMap_nil, List.append_nil, hpc]
    exact gen_step h0 h5 G (.inl ⟨rfl, eu⟩) (by rw [eu]; exact e1 _)
  · have eu : uR 2 prC (eF k) c = m.cps.toList := hpc
    exact gen_step h0 h5 G (.inl ⟨rfl, eu⟩) (by rw [eu]; exact em)
  · have eu : uR 3 prC (eF k) c = [c] := rfl
    exact gen_step h0 h5 G (.inr ⟨rfl, eu⟩) (by rw [eu, List.flatMap_cons, List.flatMap_nil, List.append_nil]; show (prC c).flatMap (eF k) = _; rw [hpc, em])
  · have eu : uR 4 prC (eF k) c = [c] := rfl
    exact gen_step h0 h5 G (.inr ⟨rfl, eu⟩) (by rw [eu, List.flatMap_cons, List.flatMap_nil, List.append_nil]; show (eF k c).flatMap prC = _; rw [ec, List.flatMap_cons, List.flatMap_nil, List.append_nil, hpc])
  · have eu : uR 5 prC (eF k) c = [c] := ec
    exact gen_step h0 h5 G (.inr ⟨rfl, eu⟩) (by rw [eu, List.flatMap_cons, List.flatMap_nil, List.append_nil]; exact hpc)
end Mine
set_option Elab.async false
set_option maxRecDepth 100000
set_option linter.unusedSimpArgs false
set_option linter.unusedVariables false
namespace Mine
open PySem PySem.W PyProof.Rows PySem.Calls PySem.Spec
set_option maxHeartbeats 4000000
noncomputable def genB (c : Nat) (m : List Nat) : Bool := !spL.contains c && decide (prD c = m) && m.all fun d => !spL.contains d && decide (prD d = [d])
theorem gen_of {c : Nat} {m : List Nat} (h : genB c m = true) : Gen c ⟨m.toArray⟩ := by
  unfold genB at h
  rw [Bool.and_eq_true, Bool.and_eq_true] at h
  obtain ⟨⟨h1, h2⟩, h3⟩ := h
  refine ⟨by simpa using h1, ?_, ?_⟩
  · rw [prD_eq]; exact of_decide_eq_true h2
  · intro d hd
    have := List.all_eq_true.mp h3 d hd
    rw [Bool.and_eq_true] at this
    rw [prD_eq]
    exact ⟨by simpa using this.1, of_decide_eq_true this.2⟩
/- Chinese -/
theorem within_no : ∀ (l : List (Nat × Nat × Nat)) (c : Nat), (l.all fun p => decide (p.2.1 < 19968) || decide (40869 < p.1)) = true → 19968 ≤ c → c ≤ 40869 → Unicode.shifted l c = none
  | [], _, _, _, _ => rfl
  | (a, b, t) :: r, c, h, h1, h2 => by
    rw [List.all_cons, Bool.and_eq_true] at h
    have hh := h.1
    rw [Bool.or_eq_true] at hh
    unfold Unicode.shifted
    by_cases ha : c < a
    · rw [if_pos ha]
    · rw [if_neg ha]
      have hb : ¬ c ≤ b := by
        rcases hh with hh | hh
        · have := of_decide_eq_true hh; dsimp only at this; omega
        · have := of_decide_eq_true hh; dsimp only at this; omega
      rw [if_neg hb]
      exact within_no r c h.2 h1 h2
theorem one_gap : (UnicodeData.oneLower.all fun p => decide (p.2.1 < 19968) || decide (40869 < p.1)) = true := by decide +kernel
theorem sev_gap : (UnicodeData.severalLower.all fun p => decide (p.1 < 19968) || decide (40869 < p.1)) = true := by decide +kernel
theorem sev_no : ∀ (l : List (Nat × List Nat)) (c : Nat), (l.all fun p => decide (p.1 < 19968) || decide (40869 < p.1)) = true → 19968 ≤ c → c ≤ 40869 → l.lookup c = none
  | [], _, _, _, _ => rfl
  | (a, b) :: r, c, h, h1, h2 => by
    rw [List.all_cons, Bool.and_eq_true, Bool.or_eq_true] at h
    have hne : (c == a) = false := by
      rw [beq_eq_false_iff_ne]
      rcases h.1 with hh | hh
      · have := of_decide_eq_true hh; dsimp only at this; omega
      · have := of_decide_eq_true hh; dsimp only at this; omega
    rw [List.lookup_cons, hne]
    exact sev_no r c h.2 h1 h2
theorem lower_chi {c : Nat} (h1 : 19968 ≤ c) (h2 : c ≤ 40869) : Txt.lower ⟨#[c]⟩ = ⟨#[c]⟩ := by
  have e : Unicode.lowerOf c = [c] := by
    unfold Unicode.lowerOf Unicode.image
    rw [sev_no _ c sev_gap h1 h2, within_no _ c one_gap h1 h2]
    rfl
  unfold Txt.lower
  rw [placed_single ⟨#[c]⟩ _ (fun d => d) fun i d hd => by
    have hd' : (⟨#[c]⟩ : Str).cps[i]? = some d := by simpa using hd
    have hm : d ∈ [c] := List.mem_of_getElem? hd
    rw [List.mem_singleton] at hm
    subst hm
    unfold Unicode.lowerAt
    rw [hd']
    have hne : (d == 0x3A3) = false := by rw [beq_eq_false_iff_ne]; omega
    simp only [hne, Bool.false_and, Bool.false_eq_true, if_false]
    exact e]
  simp
theorem gen_chi {c : Nat} (h1 : 19968 ≤ c) (h2 : c ≤ 40869) : Gen c ⟨#[c]⟩ := by
  have hs : c ∉ spL := by
    unfold spL
    simp only [List.mem_cons, List.not_mem_nil, or_false]
    omega
  have hb : b1b (c : Int) = false := by
    unfold b1b b1L
    rw [Bool.eq_false_iff]
    intro e
    have e' := List.contains_iff_mem.mp e
    simp only [List.mem_cons, List.not_mem_nil, or_false] at e'
    omega
  have h3 : b3s (c : Int) = none := b3_none fun x hx e => by
    have := List.all_eq_true.mp b3_gap x hx
    rw [Bool.or_eq_true] at this
    rcases this with hh | hh
    · have := of_decide_eq_true hh; omega
    · have := of_decide_eq_true hh; omega
  have hp : prC c = [c] := by
    unfold prC
    rw [hb, m3_none h3, lower_chi h1 h2]; rfl
  exact ⟨hs, hp, fun d hd => by
    have : d ∈ [c] := hd
    rw [List.mem_singleton] at this
    subst this
    exact ⟨hs, hp⟩⟩
/- the kinds of signs -/
theorem k3_at : ∀ j < 3, k3.getD j ⟨#[]⟩ = ⟨#[[46, 13, 10].getD j 0]⟩ ∧ [46, 13, 10].getD j 0 ∈ spL := by decide +kernel
theorem k5_at : ∀ j < 5, k5.getD j ⟨#[]⟩ = ⟨#[[38, 60, 62, 34, 9].getD j 0]⟩ ∧ [38, 60, 62, 34, 9].getD j 0 ∈ spL := by decide +kernel
theorem noth_at : ∀ j < 27, genB (nothL.getD j 0).toNat [] = true := by decide +kernel
noncomputable def chI : List (Int × Str) → Bool
  | [] => true
  | a :: r => (match r with | [] => true | b :: _ => decide (a.1 < b.1)) && chI r
theorem chI_pw : ∀ {l : List (Int × Str)}, chI l = true → l.Pairwise (fun a b => a.1 < b.1) := by
  intro l
  induction l with
  | nil => intro _; exact .nil
  | cons a r ih =>
    intro h
    have hp := Bool.and_eq_true_iff.mp h
    have hr := ih hp.2
    cases r with
    | nil => exact .cons (fun _ h => by cases h) .nil
    | cons b r' =>
      have hab : a.1 < b.1 := of_decide_eq_true hp.1
      refine .cons (fun y hy => ?_) hr
      rcases List.mem_cons.mp hy with rfl | hy
      · exact hab
      · exact Int.lt_trans hab ((List.pairwise_cons.mp hr).1 y hy)
theorem find_of_pw {x : Int × Str} : ∀ {l : List (Int × Str)}, l.Pairwise (fun a b => a.1 < b.1) → x ∈ l → l.find? (fun y => y.1 == x.1) = some x := by
  intro l
  induction l with
  | nil => intro _ h; cases h
  | cons a r ih =>
    intro hp hx
    have hp' := List.pairwise_cons.mp hp
    rcases List.mem_cons.mp hx with rfl | hx
    · exact List.find?_cons_of_pos (by simp)
    · rw [List.find?_cons_of_neg (by have := hp'.1 x hx; simp; omega)]
      exact ih hp'.2 hx
theorem inc_b3 : chI b3Items = true := by kernel_rfl
noncomputable def posL : List Nat := [202, 228, 254, 298, 364, 390, 416, 442, 468, 494]
theorem tab_let : ∀ a < 10, (b3Items.drop (posL.getD a 0)).take 26 = (List.range 26).map fun b => (starts.getD (a + 1) 0 + ((b : Nat) : Int), ⟨#[97 + b]⟩) := by decide +kernel
theorem starts_hi : ∀ a < 10, 119808 ≤ starts.getD (a + 1) 0 ∧ starts.getD (a + 1) 0 ≤ 120432 := by decide +kernel
theorem let_low : ∀ b < 26, (!spL.contains (starts.getD 0 0 + ((b : Nat) : Int)).toNat && decide (prD (starts.getD 0 0 + ((b : Nat) : Int)).toNat = [(97 + ((b : Nat) : Int)).toNat])) = true := by decide +kernel
theorem let_one (a : Nat) (ha : a < 11) (b : Nat) (hb : b < 26) : (!spL.contains (starts.getD a 0 + ((b : Nat) : Int)).toNat && decide (prD (starts.getD a 0 + ((b : Nat) : Int)).toNat = [(97 + ((b : Nat) : Int)).toNat])) = true := by
  cases a with
  | zero => exact let_low b hb
  | succ a =>
    have hr := starts_hi a (by omega)
    have hm : (starts.getD (a + 1) 0 + ((b : Nat) : Int), (⟨#[97 + b]⟩ : Str)) ∈ b3Items := by
      refine List.mem_of_mem_drop (i := posL.getD a 0) (List.mem_of_mem_take (i := 26) ?_)
      rw [tab_let a (by omega)]
      exact List.mem_map.mpr ⟨b, List.mem_range.mpr hb, rfl⟩
    have hf := find_of_pw (chI_pw inc_b3) hm
    generalize hz : starts.getD (a + 1) 0 + ((b : Nat) : Int) = z at hf
    dsimp only at hf
    have hlo : 119808 ≤ z := by omega
    obtain ⟨c, rfl⟩ := Int.eq_ofNat_of_zero_le (show 0 ≤ z by omega)
    rw [Int.toNat_natCast]
    have hs : spL.contains c = false := by
      unfold spL
      rw [Bool.eq_false_iff]
      intro e
      have e' := List.contains_iff_mem.mp e
      simp only [List.mem_cons, List.not_mem_nil, or_false] at e'
      omega
    have hb1 : b1b (c : Int) = false := by
      unfold b1b b1L
      rw [Bool.eq_false_iff]
      intro e
      have e' := List.contains_iff_mem.mp e
      simp only [List.mem_cons, List.not_mem_nil, or_false] at e'
      omega
    have h3 : b3s (c : Int) = some ⟨#[97 + b]⟩ := by unfold b3s; rw [hf]; rfl
    have hp : prD c = [(97 + ((b : Nat) : Int)).toNat] := by
      unfold prD prC m3
      rw [if_neg (by omega), hb1, h3]
      simp; omega
    rw [hs, hp]; simp
theorem let_two : ∀ b < 26, ([(97 + ((b : Nat) : Int)).toNat].all fun d => !spL.contains d && decide (prD d = [d])) = true := by decide +kernel
theorem let_at (a : Nat) (ha : a < 11) (b : Nat) (hb : b < 26) : genB (starts.getD a 0 + ((b : Nat) : Int)).toNat [(97 + ((b : Nat) : Int)).toNat] = true := by
  unfold genB
  rw [let_one a ha b hb, let_two b hb]; rfl
theorem wl_at : ∀ j < 19, genB (wl.getD j (0, ⟨#[]⟩)).1.toNat (wl.getD j (0, ⟨#[]⟩)).2.cps.toList = true := by decide +kernel
theorem pl_at : ∀ j < 42, genB (plL.getD j 0).toNat [(plL.getD j 0).toNat] = true := by decide +kernel
theorem sgn_ok (n : Int) : ∃ c, (sgnP n).1 = ⟨#[c]⟩ ∧ ((c ∈ spL ∧ (sgnP n).2 = ⟨#[c]⟩) ∨ Gen c (sgnP n).2) := by
  unfold sgnP
  have h9 := fmod_rng n 9 (by decide)
  have h5 := fmod_rng (n.fdiv 9) 5 (by decide)
  have h27 := fmod_rng (n.fdiv 9) 27 (by decide)
  have h26 := fmod_rng (n.fdiv 9) 26 (by decide)
  have h11 := fmod_rng ((n.fdiv 9).fdiv 26) 11 (by decide)
  have h19 := fmod_rng (n.fdiv 9) 19 (by decide)
  have h42 := fmod_rng ((n.fdiv 9).fdiv 2) 42 (by decide)
  have hch := fmod_rng ((n.fdiv 9).fdiv 2) 20902 (by decide)
  split
  · obtain ⟨e, m⟩ := k3_at (n.fmod 9).toNat (by omega)
    exact ⟨_, e, .inl ⟨m, e⟩⟩
  · split
    · refine ⟨nothC (n.fdiv 9), rfl, .inr ?_⟩
      exact gen_of (noth_at ((n.fdiv 9).fmod 27).toNat (by omega))
    · split
      · obtain ⟨e, m⟩ := k5_at ((n.fdiv 9).fmod 5).toNat (by omega)
        exact ⟨_, e, .inl ⟨m, e⟩⟩
      · split
        · refine ⟨letC (n.fdiv 9), rfl, .inr ?_⟩
          have h := let_at (((n.fdiv 9).fdiv 26).fmod 11).toNat (by omega) ((n.fdiv 9).fmod 26).toNat (by omega)
          rw [Int.toNat_of_nonneg h26.1] at h
          exact gen_of h
        · split
          · refine ⟨(wlj (n.fdiv 9)).1.toNat, rfl, .inr ?_⟩
            have h := gen_of (wl_at ((n.fdiv 9).fmod 19).toNat (by omega))
            have e : (⟨(wlj (n.fdiv 9)).2.cps.toList.toArray⟩ : Str) = (wlj (n.fdiv 9)).2 := by
              obtain ⟨a⟩ := (wlj (n.fdiv 9)).2; simp
            rw [← e]
            exact h
          · split
            · refine ⟨plC ((n.fdiv 9).fdiv 2), rfl, .inr ?_⟩
              exact gen_of (pl_at (((n.fdiv 9).fdiv 2).fmod 42).toNat (by omega))
            · refine ⟨chiC (n.fdiv 9), rfl, .inr ?_⟩
              unfold chiC
              exact gen_chi (by omega) (by omega)
/- the page -/
theorem tr_l (f : Nat → List Nat) (x : Str) : (tr f x).cps.toList = x.cps.toList.flatMap f := rfl
theorem wr_l (k : Int) (x : Str) : (write k x).cps.toList = x.cps.toList.flatMap (eF k) := rfl
theorem pr_l (x : Str) : (prep x).cps.toList = x.cps.toList.flatMap prC := rfl
theorem qu_l (x : Str) : (quo x).cps.toList = dtL true (leL false x.cps.toList) := rfl
theorem flat_sing (l : List Nat) : l.flatMap (fun d => [d]) = l := flatMap_id fun _ _ => rfl
noncomputable def ordR (r : Nat) : List Nat := if r = 0 then [112, 119, 115] else if r = 1 then [119, 112, 115] else if r = 2 then [112, 115, 119] else if r = 3 then [115, 112, 119] else if r = 4 then [115, 119, 112] else [119, 115, 112]
theorem pg_p (k : Int) (x : Str) : pgStep k x 112 = prep x := if_pos rfl
theorem pg_w (k : Int) (x : Str) : pgStep k x 119 = write k x := (if_neg (by decide)).trans (if_pos rfl)
theorem pg_s (k : Int) (x : Str) : pgStep k x 115 = quo x := (if_neg (by decide)).trans (if_neg (by decide))
theorem page_is {r : Nat} (hr : r < 6) (k : Int) (x : Str) : (pgF k (ordR r) x).cps.toList = (dtL true (leL false (x.cps.toList.flatMap (uR r prC (eF k))))).flatMap (gR r prC (eF k)) := by
  have : r = 0 ∨ r = 1 ∨ r = 2 ∨ r = 3 ∨ r = 4 ∨ r = 5 := by omega
  rcases this with rfl | rfl | rfl | rfl | rfl | rfl
  · show (pgStep k (pgStep k (pgStep k x 112) 119) 115).cps.toList = (dtL true (leL false (x.cps.toList.flatMap fun c => (prC c).flatMap (eF k)))).flatMap fun d => [d]
    rw [pg_p, pg_w, pg_s, qu_l, wr_l, pr_l, flat_sing, List.flatMap_assoc]
  · show (pgStep k (pgStep k (pgStep k x 119) 112) 115).cps.toList = (dtL true (leL false (x.cps.toList.flatMap fun c => (eF k c).flatMap prC))).flatMap fun d => [d]
    rw [pg_w, pg_p, pg_s, qu_l, pr_l, wr_l, flat_sing, List.flatMap_assoc]
  · show (pgStep k (pgStep k (pgStep k x 112) 115) 119).cps.toList = (dtL true (leL false (x.cps.toList.flatMap prC))).flatMap (eF k)
    rw [pg_p, pg_s, pg_w, wr_l, qu_l, pr_l]
  · show (pgStep k (pgStep k (pgStep k x 115) 112) 119).cps.toList = (dtL true (leL false (x.cps.toList.flatMap fun c => [c]))).flatMap fun d => (prC d).flatMap (eF k)
    rw [pg_s, pg_p, pg_w, wr_l, pr_l, qu_l, flat_sing, List.flatMap_assoc]
  · show (pgStep k (pgStep k (pgStep k x 115) 119) 112).cps.toList = (dtL true (leL false (x.cps.toList.flatMap fun c => [c]))).flatMap fun d => (eF k d).flatMap prC
    rw [pg_s, pg_w, pg_p, pr_l, wr_l, qu_l, flat_sing, List.flatMap_assoc]
  · show (pgStep k (pgStep k (pgStep k x 119) 115) 112).cps.toList = (dtL true (leL false (x.cps.toList.flatMap (eF k)))).flatMap prC
    rw [pg_w, pg_s, pg_p, pr_l, qu_l, wr_l]
theorem str_ext {x y : Str} (h : x.cps.toList = y.cps.toList) : x = y := by
  obtain ⟨a⟩ := x
  obtain ⟨b⟩ := y
  exact congrArg _ (Array.toList_inj.mp h)
theorem plain_row {r n : Nat} {k : Int} {ns : List Int} (hr : r < 6) (h0 : 0 ≤ k) (h5 : k < 5) : pgF k (ordR r) (pg0 n (ns.map sgnP)) = (dueF k (spR r) (swR r) (wpR r) (psN n (ns.map sgnP))).1 := by
  apply str_ext
  rw [page_is hr, dueF_ok (u := uR r prC (eF k)) (g := gR r prC (eF k)) fun p hp => ?_]
  · unfold pg0
    rw [txt_join, List.flatMap_map]
  · obtain ⟨n, _, rfl⟩ := List.mem_map.mp (psN_mem hp)
    obtain ⟨c, e, h⟩ := sgn_ok n
    refine ⟨c, e, ?_⟩
    rcases h with ⟨hc, em⟩ | G
    · rw [em]; exact step_sp hr h0 h5 hc
    · exact step_gen hr h0 h5 G
theorem plain (k : Int) (ns : List Int) (h0 : 0 ≤ k) (h5 : k < 5) : PlainOK k (ns.map sgnP) := by
  intro x hx
  simp only [List.mem_cons, List.not_mem_nil, or_false] at hx
  rcases hx with rfl | rfl | rfl | rfl | rfl | rfl | rfl
  · exact plain_row (r := 0) (by decide) h0 h5
  · exact plain_row (r := 1) (by decide) h0 h5
  · exact plain_row (r := 2) (by decide) h0 h5
  · exact plain_row (r := 3) (by decide) h0 h5
  · exact plain_row (r := 4) (by decide) h0 h5
  · exact plain_row (r := 5) (by decide) h0 h5
  · exact plain_row (r := 2) (by decide) h0 h5
end Mine
set_option Elab.async false
set_option maxRecDepth 100000
set_option linter.unusedSimpArgs false
set_option linter.unusedVariables false
open PySem PySem.W PyProof.Rows
namespace Mine
theorem law_end (w : World) {mean : ExcName → Option Value} {mg mb : Str → Option Value} {H h₁ : Heap} {tk : Nat} {s : Shared} {E : Value → Shared → Prop} {cd : Value} {fa sl : Addr} {vs : List Value} {ns : List Int} {on os : Obj} {m₀ : Str → Option Value}
    (t : Sem Flow) (A : Around) (ca : Addr) (cb : Addr) {Q : Flow → Shared → Prop} (ht : t = execs (fB 28) (lE H fa cd)) (hA : A = callerA.deeper (lE H fa cd))
    (X : (K w.params).In H) (T : Top qv (looseW qv loose) mean mg mb H)
    (F : Fr H H.objs.size h₁ m₀) (hm : m₀ = fun _ => none) (N : News H H.objs.size h₁ [(ca, on), (cb, os)]) (hca : ca = H.objs.size + 1 + 1) (hcb : cb = H.objs.size + 1) (hon : on.data = .cell none) (hos : os.data = .cell (some (.ref sl)))
    (hl : H.IsList sl vs.toArray) (hi : IntsAre vs ns) (h63 : ns.length ≤ 63)
    (hE : PassesOwn (model PySem.Challenge.rw_st0031_01.prog w) A (lE H fa cd) E)
    (hQ : ∀ (h' : Heap) (tk' : Nat) (m' : Str → Option Value), Fr H H.objs.size h' m' → Q (.ret (.bool true)) { s with heap := h', toks := tk' }) :
    wpAny (model PySem.Challenge.rw_st0031_01.prog w) A t Q E { s with heap := h₁, toks := tk } := by
  subst hA hm hca hcb
  have z := @spec_law w mean mg mb H h₁ tk s E cd fa sl vs ns on os (fun k ns h0 h5 => plain k ns h0 h5) X T F N hon hos hl hi h63 hE
  rw [← ht] at z
  refine mono1 z ?_
  rintro f s' ⟨⟨rfl, h', tk', m', rfl, F'⟩⟩
  exact hQ h' tk' m' F'
end Mine
local macro_rules | `(tactic| k_qdec) => `(tactic| decide +kernel)
set_option maxHeartbeats 0 in
theorem Mine.said0 : OpenLaw.wellSaid PySem.Challenge.rw_st0031_01 = true := by
  unfold OpenLaw.wellSaid OpenRow.wellSaid OpenRow.partSaid looksOpen
  repeat' (with_reducible refine look_both ?_ ?_)
  all_goals first
    | (rw [PySem.W.Fast.te8326940854005059898]; decide +kernel)
    | (rw [PySem.W.Fast.te17119622794617984870]; decide +kernel)
    | (rw [PySem.W.Fast.te8377067652309620493]; decide +kernel)
    | (rw [PySem.W.Fast.te11788848310118352699]; decide +kernel)
    | decide +kernel
set_option maxHeartbeats 0 in
theorem PySem.Challenge.cw_st0031_01_holds : PySem.Challenge.rw_st0031_01.Holds := by
  w_on; refine holds_law Mine.said0 fun said => ?_
  refine holds_open (q := Mine.qv) (loose := Mine.loose) (Xt := fun s => xlAt Mine.qv [] s && recOk (RowW.records Mine.rr.toRowW) s) (XP := XL Mine.qv []) (Yf := Hook.obs Mine.HK) (Ya := Hook.val Mine.HK) (YP := Hook.says Mine.HK) (N := 30000) Mine.left (Hook.of Mine.HK) (Hook.keeps Mine.HK) (fun s e => xl_of s (Bool.and_eq_true_iff.mp e).1) XL.keeps (by rfl) (by rfl) (by rfl) (fun s e => recFacts_of (Bool.and_eq_true_iff.mp e).2) (by rfl) (by assumption) (by decide +kernel) ⟨rfl, rfl, rfl, rfl, rfl, by decide +kernel⟩ ?hw ?hc
  case hw => w_witness2
  case hc =>
    k_go0
    rename Fr _ _ _ _ => F0
    rename News _ _ _ _ => N0
    rename (Mine.K _).In _ => KX0
    rename Top _ _ _ _ _ _ => T0
    rename IntsAre _ _ => hI0
    rename Heap.IsList _ _ _ => hL0
    refine' Mine.law_end _ _ _ _ _ ?ht ?hA ?X ?T ?F ?hm ?N ?hca ?hcb ?hon ?hos ?hl ?hi ?h63 ?hE ?hQ
    case X => exact KX0
    case T => exact T0
    case F => exact F0
    case N => exact N0
    case hl => exact hL0
    case hi => exact hI0
    case hA => first | rfl
    case ht => first | rfl
    case hm => first | kernel_rfl | rfl
    case hca => first | rfl
    case hcb => first | rfl
    case hon => first | assumption | (rename (_ = Data.cell _) => q1; rename (_ = Data.cell _) => q2; exact q2)
    case hos => first | assumption | (rename (_ = Data.cell _) => q1; exact q1)
    case h63 => first | omega
    case hE => first | passes_own
    case hQ =>
      intro h' tk' m' F6
      k_steps
